/- FnFieldInverts: the walk. -/
import Derived.Test.YtkecocibfmhdpaaFI
import Derived.Test.YtkecocibfmhdpaaFM
import Derived.Test.YtkecocibfmhdpaaLI0
import Derived.Test.YtkecocibfmhdpaaLK2
set_option linter.unusedSimpArgs false
set_option linter.unusedVariables false
namespace Go.Proofs.Ytkecocibfmhdpaa
open Go.RowKit

theorem inv_mulE (x E : Nat) (hE : E = pF - 2) (hx : x < pF) (h : x ≠ 0) : x * xp x E % pF = 1 := by
  have h1 : fp x ≠ 0 := fun h0 => h (by rw [fp_ne] at h0; rwa [Nat.mod_eq_of_lt hx] at h0)
  refine fp_inj (mod_lt_p _) (by unfold pF; omega) ?_
  unfold xp
  rw [fp_mod, fp_mul, fp_mod, fp_pow, fp_one, hE]
  exact fpInv_mul (fp x) h1
theorem inv_mul (x : Nat) (hx : x < pF) (h : x ≠ 0) : x * xp x 57896044618658097711785492504343953926634992332820282019728792003956564819947 % pF = 1 := inv_mulE x _ (by unfold pF; omega) hx h

set_option maxHeartbeats 1000000 in
theorem Inverts_zero (X : Nat) (h : Hid (valN X = 0)) (w : World) :
    Calls Try.prog 9 #[.agg (arrC X)] w fun e w' => e = .returned (.bool true) ∧ Below w.heap.size w w' := by
  obtain ⟨R, qR⟩ : ∃ u : Nat, u = xp (valN X) 57896044618658097711785492504343953926634992332820282019728792003956564819947 := ⟨_, rfl⟩
  have HR := Lib.hid qR; clear qR
  obtain ⟨T, qT⟩ : ∃ u : Nat, u = valN X := ⟨_, rfl⟩
  have HT := Lib.hid qT; clear qT
  have lR : R < 256 ^ 32 := by rw [HR.out]; exact Nat.lt_trans (xp_lt _ _) p_lt
  have hz : Hid (T = 0) := Lib.hid (by rw [HT.out]; exact h.out)
  have H1 : Hid (1 = xp (valN 1) 57896044618658097711785492504343953926634992332820282019728792003956564819947) := Lib.hid (by rw [v1, xp_base1])
  have hR0 : Hid (R = 0) := Lib.hid (by rw [HR.out, h.out, xp_base0 _ (by omega)])
  clear h
  go_enter Try.func9, Try.ntmps9
  go_wp2_with (first
    | ((with_reducible refine at_dst 4 ?_); refine wpList_load_row rfl 22 _ rfl (w.heap.size) rfl 22 (arrC X) (0, 0) _ (heap_new_at _ _ _ rfl) under32 rfl (info32_of (arrC X) (arrC_size _)) ?_))
  refine (FieldInv_to X R HR _).mono ?_
  rintro e w1 ⟨rfl, hC1⟩
  have hs1 : w.heap.size + 1 ≤ w1.heap.size := by have := hC1.size; (try simp only [alloc_size, setRow_size] at this); omega
  replace h1 : w1.heap[w.heap.size]? = some (.cells (arrC X) 22 (0, 0)) := (heap_call hC1 (heap_new_at _ _ _ rfl))
  have hBw1 : Hid (Below w.heap.size w w1) := Lib.hid (below_call (below_alloc (Below.refl _ w) _) hC1)
  clear hC1
  go_wp2_with (first
    | ((with_reducible refine at_store 3 ?_); refine wpList_store_row rfl 22 _ _ rfl (w1.heap.size) (arrC R) rfl rfl 22 (zL) (heap_new_at _ _ _ rfl) (info32_of (arrC R) (arrC_size _)) (zL_size.trans (arrC_size _).symm) (arrC_one _) ?_)
    | ((with_reducible refine at_dst 6 ?_); refine wpList_load_row rfl 22 _ rfl (w.heap.size) rfl 22 (arrC X) (0, 0) _ (heap_row _ (by omega) (heap_old _ h1)) under32 rfl (info32_of (arrC X) (arrC_size _)) ?_))
  refine (isZero_true X T HT hz _).mono ?_
  rintro e w2 ⟨rfl, hC2⟩
  have hs2 : w1.heap.size + 1 ≤ w2.heap.size := by have := hC2.size; (try simp only [alloc_size, setRow_size] at this); omega
  replace h1 : w2.heap[w.heap.size]? = some (.cells (arrC X) 22 (0, 0)) := (heap_call hC2 (heap_row _ (by omega) (heap_old _ h1)))
  replace h3 : w2.heap[w1.heap.size]? = some (.cells (arrC R) 22 (0, 0)) := (heap_call hC2 (setRow_heap _ _ _ _ _ _ (heap_new_at _ _ _ rfl)))
  have hBw2 : Hid (Below w.heap.size w w2) := Lib.hid (below_call (below_setRow (below_alloc hBw1.out _) (by omega) _) hC2)
  clear hC2
  go_wp2_with fail
  refine wp_named ?_
  intro w3 ew3
  have hs3 : w2.heap.size ≤ w3.heap.size := by rw [ew3]; (try simp only [alloc_size, setRow_size]); omega
  replace h1 : w3.heap[w.heap.size]? = some (.cells (arrC X) 22 (0, 0)) := by rw [ew3]; exact h1
  replace h3 : w3.heap[w1.heap.size]? = some (.cells (arrC R) 22 (0, 0)) := by rw [ew3]; exact h3
  have hBw3 : Hid (Below w.heap.size w w3) := Lib.hid (by rw [ew3]; exact hBw2.out)
  clear ew3
  refine wp_region_quiet (C := Below w3.heap.size w3) (by kernel_rfl) (by kernel_rfl) (Below.refl _ _).drew ?_
  simp only [List.toList_toArray]
  refine wpQuiet_step (fun K hK => ?_); rw [if_pos (by rfl)]
  refine ⟨.agg (arrC R), fun w' hC => qload _ _ rfl (w1.heap.size) rfl _ _ _ h3 under32 rfl (info32_of (arrC R) (arrC_size _)) hC, hK _ ?_⟩; clear hK K
  simp only [Act.put, List.setIfInBounds_toArray, List.set_cons_zero, List.set_cons_succ]
  refine wpQuiet_step (fun K hK => ?_); rw [if_pos (by rfl)]
  refine ⟨.agg (arrC 0), fun w' hC => qcall 11 #[] (by go_simp) hC (zero_v w'), hK _ ?_⟩; clear hK K
  simp only [Act.put, List.setIfInBounds_toArray, List.set_cons_zero, List.set_cons_succ]
  refine wpQuiet_step (fun K hK => ?_); rw [if_pos (by rfl)]
  refine ⟨.bool true, fun w' hC => qrun (by go_simp; rw [run_eq_arr _ _ lR (by omega)]; simp [hR0.out]), hK _ ?_⟩; clear hK K
  simp only [Act.put, List.setIfInBounds_toArray, List.set_cons_zero, List.set_cons_succ]
  refine wpQuiet_step (fun K hK => ?_); rw [if_pos (by rfl)]
  refine ⟨.bool true, fun w' hC => qrun (by go_simp), hK _ ?_⟩; clear hK K
  simp only [Act.put, List.setIfInBounds_toArray, List.set_cons_zero, List.set_cons_succ]
  refine wpQuiet_step (fun K hK => ?_); rw [if_pos (by rfl)]
  refine ⟨.agg (arrC 1), fun w' hC => qcall 15 #[.int .i64 1] (by go_simp) hC (number_v 1 (by omega) w'), hK _ ?_⟩; clear hK K
  simp only [Act.put, List.setIfInBounds_toArray, List.set_cons_zero, List.set_cons_succ]
  refine wpQuiet_step (fun K hK => ?_); rw [if_pos (by rfl)]
  refine ⟨.agg (arrC 1), fun w' hC => qcall 20 #[.agg (arrC 1)] (by go_simp) hC (FieldInv_to 1 1 H1 w'), hK _ ?_⟩; clear hK K
  simp only [Act.put, List.setIfInBounds_toArray, List.set_cons_zero, List.set_cons_succ]
  refine wpQuiet_step (fun K hK => ?_); rw [if_pos (by rfl)]
  refine ⟨.agg (arrC 1), fun w' hC => qcall 15 #[.int .i64 1] (by go_simp) hC (number_v 1 (by omega) w'), hK _ ?_⟩; clear hK K
  simp only [Act.put, List.setIfInBounds_toArray, List.set_cons_zero, List.set_cons_succ]
  refine wpQuiet_step (fun K hK => ?_); rw [if_pos (by rfl)]
  refine ⟨.bool true, fun w' hC => qrun (by go_simp; rw [run_eq_arr _ _ (by omega) (by omega)]; simp), hK _ ?_⟩; clear hK K
  simp only [Act.put, List.setIfInBounds_toArray, List.set_cons_zero, List.set_cons_succ]
  refine wpQuiet_step (fun K hK => ?_); rw [if_pos (by rfl)]
  refine ⟨.bool true, fun w' hC => qrun (by go_simp), hK _ ?_⟩; clear hK K
  simp only [Act.put, List.setIfInBounds_toArray, List.set_cons_zero, List.set_cons_succ]
  refine wpQuiet_step (fun K hK => ?_); rw [if_pos (by rfl)]
  refine ⟨.bool true, fun w' hC => qrun (by go_simp), hK _ ?_⟩; clear hK K
  simp only [Act.put, List.setIfInBounds_toArray, List.set_cons_zero, List.set_cons_succ]
  refine wpQuiet_nil ?_
  intro w4 hC
  have hs4 := hC.size
  replace h1 : w4.heap[w.heap.size]? = some (.cells (arrC X) 22 (0, 0)) := (heap_call hC h1)
  replace h3 : w4.heap[w1.heap.size]? = some (.cells (arrC R) 22 (0, 0)) := (heap_call hC h3)
  have hBw4 : Hid (Below w.heap.size w w4) := Lib.hid (below_call hBw3.out hC)
  clear hC
  go_wp2
  go_ret
  exact ⟨rfl, hBw4.out⟩

set_option maxHeartbeats 1000000 in
theorem Inverts_other (X : Nat) (h : Hid (¬ valN X = 0)) (w : World) :
    Calls Try.prog 9 #[.agg (arrC X)] w fun e w' => e = .returned (.bool true) ∧ Below w.heap.size w w' := by
  obtain ⟨R, qR⟩ : ∃ u : Nat, u = xp (valN X) 57896044618658097711785492504343953926634992332820282019728792003956564819947 := ⟨_, rfl⟩
  have HR := Lib.hid qR; clear qR
  obtain ⟨T, qT⟩ : ∃ u : Nat, u = valN X := ⟨_, rfl⟩
  have HT := Lib.hid qT; clear qT
  have lR : R < 256 ^ 32 := by rw [HR.out]; exact Nat.lt_trans (xp_lt _ _) p_lt
  have hz : Hid (¬ T = 0) := Lib.hid (by rw [HT.out]; exact h.out)
  have HM : Hid (1 = valN X * valN R % pF) := Lib.hid (by rw [vl (x := R) (by rw [HR.out]; exact xp_lt _ _), HR.out, inv_mul _ (valN_lt X) h.out])
  have e1 := fun u : World => run_eq_arr 1 1 (by omega) (by omega) u
  rw [show (decide ((1 : Nat) = 1)) = true from rfl] at e1
  clear h
  go_enter Try.func9, Try.ntmps9
  go_wp2_with (first
    | ((with_reducible refine at_dst 4 ?_); refine wpList_load_row rfl 22 _ rfl (w.heap.size) rfl 22 (arrC X) (0, 0) _ (heap_new_at _ _ _ rfl) under32 rfl (info32_of (arrC X) (arrC_size _)) ?_))
  refine (FieldInv_to X R HR _).mono ?_
  rintro e w1 ⟨rfl, hC1⟩
  have hs1 : w.heap.size + 1 ≤ w1.heap.size := by have := hC1.size; (try simp only [alloc_size, setRow_size] at this); omega
  replace h1 : w1.heap[w.heap.size]? = some (.cells (arrC X) 22 (0, 0)) := (heap_call hC1 (heap_new_at _ _ _ rfl))
  have hBw1 : Hid (Below w.heap.size w w1) := Lib.hid (below_call (below_alloc (Below.refl _ w) _) hC1)
  clear hC1
  go_wp2_with (first
    | ((with_reducible refine at_store 3 ?_); refine wpList_store_row rfl 22 _ _ rfl (w1.heap.size) (arrC R) rfl rfl 22 (zL) (heap_new_at _ _ _ rfl) (info32_of (arrC R) (arrC_size _)) (zL_size.trans (arrC_size _).symm) (arrC_one _) ?_)
    | ((with_reducible refine at_dst 6 ?_); refine wpList_load_row rfl 22 _ rfl (w.heap.size) rfl 22 (arrC X) (0, 0) _ (heap_row _ (by omega) (heap_old _ h1)) under32 rfl (info32_of (arrC X) (arrC_size _)) ?_))
  refine (isZero_false X T HT hz _).mono ?_
  rintro e w2 ⟨rfl, hC2⟩
  have hs2 : w1.heap.size + 1 ≤ w2.heap.size := by have := hC2.size; (try simp only [alloc_size, setRow_size] at this); omega
  replace h1 : w2.heap[w.heap.size]? = some (.cells (arrC X) 22 (0, 0)) := (heap_call hC2 (heap_row _ (by omega) (heap_old _ h1)))
  replace h3 : w2.heap[w1.heap.size]? = some (.cells (arrC R) 22 (0, 0)) := (heap_call hC2 (setRow_heap _ _ _ _ _ _ (heap_new_at _ _ _ rfl)))
  have hBw2 : Hid (Below w.heap.size w w2) := Lib.hid (below_call (below_setRow (below_alloc hBw1.out _) (by omega) _) hC2)
  clear hC2
  go_wp2_with (first
    | ((with_reducible refine at_dst 17 ?_); refine wpList_load_row rfl 22 _ rfl (w.heap.size) rfl 22 (arrC X) (0, 0) _ h1 under32 rfl (info32_of (arrC X) (arrC_size _)) ?_)
    | ((with_reducible refine at_dst 18 ?_); refine wpList_load_row rfl 22 _ rfl (w1.heap.size) rfl 22 (arrC R) (0, 0) _ h3 under32 rfl (info32_of (arrC R) (arrC_size _)) ?_))
  refine (FieldMul_to X R 1 HM _).mono ?_
  rintro e w3 ⟨rfl, hC3⟩
  have hs3 : w2.heap.size ≤ w3.heap.size := by have := hC3.size; (try simp only [alloc_size, setRow_size] at this); omega
  replace h1 : w3.heap[w.heap.size]? = some (.cells (arrC X) 22 (0, 0)) := (heap_call hC3 h1)
  replace h3 : w3.heap[w1.heap.size]? = some (.cells (arrC R) 22 (0, 0)) := (heap_call hC3 h3)
  have hBw3 : Hid (Below w.heap.size w w3) := Lib.hid (below_call hBw2.out hC3)
  clear hC3
  go_wp2_with fail
  refine (number_v 1 (by omega) _).mono ?_
  rintro e w4 ⟨rfl, hC4⟩
  have hs4 : w3.heap.size ≤ w4.heap.size := by have := hC4.size; (try simp only [alloc_size, setRow_size] at this); omega
  replace h1 : w4.heap[w.heap.size]? = some (.cells (arrC X) 22 (0, 0)) := (heap_call hC4 h1)
  replace h3 : w4.heap[w1.heap.size]? = some (.cells (arrC R) 22 (0, 0)) := (heap_call hC4 h3)
  have hBw4 : Hid (Below w.heap.size w w4) := Lib.hid (below_call hBw3.out hC4)
  clear hC4
  go_wp2
  go_ret
  exact ⟨rfl, hBw4.out⟩

theorem Inverts_walk (X : Nat) (bX : X < 256 ^ 32) (w : World) : Calls Try.prog 9 #[.agg (arrC X)] w fun e w' => e = .returned (.bool true) ∧ Below w.heap.size w w' := by
  by_cases h : valN X = 0
  · exact Inverts_zero X (Lib.hid h) w
  · exact Inverts_other X (Lib.hid h) w

end Go.Proofs.Ytkecocibfmhdpaa
