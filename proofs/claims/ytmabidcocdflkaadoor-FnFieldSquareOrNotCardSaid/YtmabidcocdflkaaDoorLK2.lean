/- The laws' helpers: plain, isZero, prime, near. -/
import Derived.Test.YtmabidcocdflkaaDoorL1
import Derived.Test.YtmabidcocdflkaaDoorK0
set_option linter.unusedSimpArgs false
set_option linter.unusedVariables false
namespace Go.Proofs.YtmabidcocdflkaaDoor
open Go.RowKit

theorem FieldAdd_to (N M R : Nat) (hR : Hid (R = (valN N + valN M) % pF)) (w : World) : Calls Tryd.prog 6 #[.agg (arrC N), .agg (arrC M)] w fun e w' => e = .returned (.agg (arrC R)) ∧ Below w.heap.size w w' := by
  rw [hR.out]; exact FieldAdd_any N M w
theorem zero_vv (w : World) : Calls Tryd.prog 12 #[] w fun e w' => e = .returned (.agg (arrC 0)) ∧ Below w.heap.size w w' := zero_any w
theorem number_vv (n : Nat) (hn : n < 9223372036854775808) (w : World) : Calls Tryd.prog 8 #[.int .i64 (n : Int)] w fun e w' => e = .returned (.agg (arrC n)) ∧ Below w.heap.size w w' := number_any n hn w
theorem add_zero_val (X : Nat) : (valN X + valN 0) % pF = valN X := by
  have h0 : valN 0 = 0 := by unfold valN; simp
  rw [h0, Nat.add_zero, Nat.mod_eq_of_lt (valN_lt X)]

set_option maxHeartbeats 1000000 in
theorem plain_to (X R : Nat) (hR : Hid (R = valN X)) (w : World) :
    Calls Tryd.prog 14 #[.agg (arrC X)] w fun e w' => e = .returned (.agg (arrC R)) ∧ Below w.heap.size w w' := by
  have HR : Hid (R = (valN X + valN 0) % pF) := Lib.hid (by rw [add_zero_val]; exact hR.out)
  clear hR
  go_enter Tryd.func14, Tryd.ntmps14
  go_wp2_with fail
  refine wp_named ?_
  intro w1 ew1
  have hs1 : w.heap.size + 1 + 1 ≤ w1.heap.size := by rw [ew1]; (try simp only [alloc_size, setRow_size]); omega
  have h1 : w1.heap[w.heap.size]? = some (.cells (arrC X) 22 (0, 0)) := by rw [ew1]; exact (heap_old _ (heap_new_at _ _ _ rfl))
  have h2 : w1.heap[w.heap.size + 1]? = some (.cells (zL) 22 (0, 0)) := by rw [ew1]; exact (heap_new_at _ _ _ (by simp only [alloc_size, setRow_size]))
  have hBw1 : Hid (Below w.heap.size w w1) := Lib.hid (by rw [ew1]; exact (below_alloc (below_alloc (Below.refl _ w) _) _))
  clear ew1
  refine wp_region_noPanic ?_
  refine wp_region_held_drew (S := Keep (w.heap.size + 1) w1) (by kernel_rfl) (Keep.start _ _) ?_
  intro hS
  obtain ⟨w2, ed⟩ : ∃ u : World, u = w1.drew := ⟨_, rfl⟩
  rw [← ed] at hS ⊢
  have xh1 : w2.heap[w.heap.size]? = some (.cells (arrC X) 22 (0, 0)) := by rw [ed]; exact h1
  have xh2 : w2.heap[w.heap.size + 1]? = some (.cells (zL) 22 (0, 0)) := by rw [ed]; exact h2
  clear ed
  have hSz := hS.size
  clear xh1
  refine takeAt (i := 0) (v := .agg (arrC X)) rfl (some 3) rfl (by kernel_rfl) (by kernel_rfl) (by kernel_rfl) (fun _ _ _ h => h) (take_row rfl _ _ rfl (w.heap.size) rfl _ _ _ h1 (by omega) under32 rfl (info32_of (arrC X) (arrC_size _))) hS ?_
  simp only [Act.put, List.setIfInBounds_toArray, List.set_cons_zero, List.set_cons_succ]
  refine wpAnyH_ready (rs := [1]) (by kernel_rfl) (by simp) ?_
  refine (AllReadyH.cons rfl ?_ AllReadyH.nil)
  intro K hK
  refine ready_call rfl (some 4) rfl 12 #[] (by go_simp) ?_
  refine (zero_vv _).mono ?_
  rintro e w3 ⟨rfl, hC⟩
  refine ⟨_, rfl, ?_⟩
  simp only [Act.put, List.setIfInBounds_toArray, List.set_cons_zero, List.set_cons_succ]
  have xh2 : w3.heap[w.heap.size + 1]? = some (.cells (zL) 22 (0, 0)) := (heap_call hC xh2)
  have hS := hS.call hC
  have hz3 := hC.size
  clear hC
  refine hK.out _ _ hS ?_
  clear hK K
  intro _
  have hSz := hS.size
  refine wpAnyH_ready (rs := [2]) (by kernel_rfl) (by simp) ?_
  refine (AllReadyH.cons rfl ?_ AllReadyH.nil)
  intro K hK
  refine ready_call rfl (some 5) rfl 6 #[.agg (arrC X), .agg (arrC 0)] (by go_simp) ?_
  refine (FieldAdd_to X 0 R HR _).mono ?_
  rintro e w4 ⟨rfl, hC⟩
  refine ⟨_, rfl, ?_⟩
  simp only [Act.put, List.setIfInBounds_toArray, List.set_cons_zero, List.set_cons_succ]
  have xh2 : w4.heap[w.heap.size + 1]? = some (.cells (zL) 22 (0, 0)) := (heap_call hC xh2)
  have hS := hS.call hC
  have hz4 := hC.size
  clear hC
  refine hK.out _ _ hS ?_
  clear hK K
  intro _
  have hSz := hS.size
  refine wpAnyH_ready (rs := [3]) (by kernel_rfl) (by simp) ?_
  refine (AllReadyH.cons rfl ?_ AllReadyH.nil)
  intro K hK
  rw [if_pos (by rfl)]
  refine wp_store_row 22 _ _ rfl (w.heap.size + 1) (arrC R) rfl rfl 22 (zL) xh2 (info32_of (arrC R) (arrC_size _)) (zL_size.trans (arrC_size _).symm) (arrC_one _) ?_
  refine put_at (none) rfl ?_
  simp only [Act.put, List.setIfInBounds_toArray, List.set_cons_zero, List.set_cons_succ]
  have xh2 : (w4.setRow (w.heap.size + 1) (arrC R)).heap[w.heap.size + 1]? = some (.cells (arrC R) 22 (0, 0)) := (setRow_heap _ _ _ _ _ _ xh2)
  have hS := hS.store (arrC R)
  generalize w4.setRow (w.heap.size + 1) (arrC R) = w5 at *
  refine hK.out _ _ hS ?_
  clear hK K
  intro _
  have hSz := hS.size
  refine wpAnyH_done (by kernel_rfl) ?_ _
  refine NoPanic.normal ?_
  have hsz := hS.size
  have h1 : w5.heap[w.heap.size]? = some (.cells (arrC X) 22 (0, 0)) := hS.old h1 (by omega)
  have h2 := xh2
  have hBw5 : Hid (Below w.heap.size w w5) := Lib.hid (hBw1.out.trans (hS.below (by omega) hBw1.out.size))
  clear hS
  go_wp2
  refine bodyPost_ret (results_cell_row rfl _ _ (w.heap.size + 1) 22 (arrC R) (0, 0) _ rfl h2 under32 rfl (info32_of (arrC R) (arrC_size _))) rfl ⟨rfl, hBw5.out⟩

set_option maxHeartbeats 1000000 in
theorem isZero_true (X R : Nat) (hR : Hid (R = valN X)) (h : Hid (R = 0)) (w : World) :
    Calls Tryd.prog 7 #[.agg (arrC X)] w fun e w' => e = .returned (.bool true) ∧ Below w.heap.size w w' := by
  have lR : R < 256 ^ 32 := by rw [hR.out]; exact Nat.lt_trans (valN_lt _) p_lt
  have HR : Hid (R = (valN X + valN 0) % pF) := Lib.hid (by rw [add_zero_val]; exact hR.out)
  clear hR
  go_enter Tryd.func7, Tryd.ntmps7
  go_wp2_with fail
  refine wp_named ?_
  intro w1 ew1
  have hs1 : w.heap.size + 1 ≤ w1.heap.size := by rw [ew1]; (try simp only [alloc_size, setRow_size]); omega
  have h1 : w1.heap[w.heap.size]? = some (.cells (arrC X) 22 (0, 0)) := by rw [ew1]; exact (heap_new_at _ _ _ rfl)
  have hBw1 : Hid (Below w.heap.size w w1) := Lib.hid (by rw [ew1]; exact (below_alloc (Below.refl _ w) _))
  clear ew1
  refine wp_region_quiet (C := Below w1.heap.size w1) (by kernel_rfl) (by kernel_rfl) (Below.refl _ _).drew ?_
  simp only [List.toList_toArray]
  refine wpQuiet_step (fun K hK => ?_); rw [if_pos (by rfl)]
  refine ⟨.agg (arrC X), fun w' hC => qload _ _ rfl (w.heap.size) rfl _ _ _ h1 under32 rfl (info32_of (arrC X) (arrC_size _)) hC, hK _ ?_⟩; clear hK K
  simp only [Act.put, List.setIfInBounds_toArray, List.set_cons_zero, List.set_cons_succ]
  refine wpQuiet_step (fun K hK => ?_); rw [if_pos (by rfl)]
  refine ⟨.agg (arrC 0), fun w' hC => qcall 12 #[] (by go_simp) hC (zero_vv w'), hK _ ?_⟩; clear hK K
  simp only [Act.put, List.setIfInBounds_toArray, List.set_cons_zero, List.set_cons_succ]
  refine wpQuiet_step (fun K hK => ?_); rw [if_pos (by rfl)]
  refine ⟨.agg (arrC R), fun w' hC => qcall 6 #[.agg (arrC X), .agg (arrC 0)] (by go_simp) hC (FieldAdd_to X 0 R HR w'), hK _ ?_⟩; clear hK K
  simp only [Act.put, List.setIfInBounds_toArray, List.set_cons_zero, List.set_cons_succ]
  refine wpQuiet_step (fun K hK => ?_); rw [if_pos (by rfl)]
  refine ⟨.agg (arrC 0), fun w' hC => qcall 12 #[] (by go_simp) hC (zero_vv w'), hK _ ?_⟩; clear hK K
  simp only [Act.put, List.setIfInBounds_toArray, List.set_cons_zero, List.set_cons_succ]
  refine wpQuiet_step (fun K hK => ?_); rw [if_pos (by rfl)]
  refine ⟨.bool true, fun w' hC => qrun (by go_simp; rw [run_eq_arr _ _ lR (by omega)]; simp [h.out]), hK _ ?_⟩; clear hK K
  simp only [Act.put, List.setIfInBounds_toArray, List.set_cons_zero, List.set_cons_succ]
  refine wpQuiet_step (fun K hK => ?_); rw [if_pos (by rfl)]
  refine ⟨.bool true, fun w' hC => qrun (by go_simp), hK _ ?_⟩; clear hK K
  simp only [Act.put, List.setIfInBounds_toArray, List.set_cons_zero, List.set_cons_succ]
  refine wpQuiet_nil ?_
  intro w2 hC
  have hs2 := hC.size
  have h1 : w2.heap[w.heap.size]? = some (.cells (arrC X) 22 (0, 0)) := (heap_call hC h1)
  have hBw2 : Hid (Below w.heap.size w w2) := Lib.hid (below_call hBw1.out hC)
  clear hC
  go_wp2
  go_ret
  exact ⟨rfl, hBw2.out⟩

set_option maxHeartbeats 1000000 in
theorem isZero_false (X R : Nat) (hR : Hid (R = valN X)) (h : Hid (¬ R = 0)) (w : World) :
    Calls Tryd.prog 7 #[.agg (arrC X)] w fun e w' => e = .returned (.bool false) ∧ Below w.heap.size w w' := by
  have lR : R < 256 ^ 32 := by rw [hR.out]; exact Nat.lt_trans (valN_lt _) p_lt
  have HR : Hid (R = (valN X + valN 0) % pF) := Lib.hid (by rw [add_zero_val]; exact hR.out)
  clear hR
  go_enter Tryd.func7, Tryd.ntmps7
  go_wp2_with fail
  refine wp_named ?_
  intro w1 ew1
  have hs1 : w.heap.size + 1 ≤ w1.heap.size := by rw [ew1]; (try simp only [alloc_size, setRow_size]); omega
  have h1 : w1.heap[w.heap.size]? = some (.cells (arrC X) 22 (0, 0)) := by rw [ew1]; exact (heap_new_at _ _ _ rfl)
  have hBw1 : Hid (Below w.heap.size w w1) := Lib.hid (by rw [ew1]; exact (below_alloc (Below.refl _ w) _))
  clear ew1
  refine wp_region_quiet (C := Below w1.heap.size w1) (by kernel_rfl) (by kernel_rfl) (Below.refl _ _).drew ?_
  simp only [List.toList_toArray]
  refine wpQuiet_step (fun K hK => ?_); rw [if_pos (by rfl)]
  refine ⟨.agg (arrC X), fun w' hC => qload _ _ rfl (w.heap.size) rfl _ _ _ h1 under32 rfl (info32_of (arrC X) (arrC_size _)) hC, hK _ ?_⟩; clear hK K
  simp only [Act.put, List.setIfInBounds_toArray, List.set_cons_zero, List.set_cons_succ]
  refine wpQuiet_step (fun K hK => ?_); rw [if_pos (by rfl)]
  refine ⟨.agg (arrC 0), fun w' hC => qcall 12 #[] (by go_simp) hC (zero_vv w'), hK _ ?_⟩; clear hK K
  simp only [Act.put, List.setIfInBounds_toArray, List.set_cons_zero, List.set_cons_succ]
  refine wpQuiet_step (fun K hK => ?_); rw [if_pos (by rfl)]
  refine ⟨.agg (arrC R), fun w' hC => qcall 6 #[.agg (arrC X), .agg (arrC 0)] (by go_simp) hC (FieldAdd_to X 0 R HR w'), hK _ ?_⟩; clear hK K
  simp only [Act.put, List.setIfInBounds_toArray, List.set_cons_zero, List.set_cons_succ]
  refine wpQuiet_step (fun K hK => ?_); rw [if_pos (by rfl)]
  refine ⟨.agg (arrC 0), fun w' hC => qcall 12 #[] (by go_simp) hC (zero_vv w'), hK _ ?_⟩; clear hK K
  simp only [Act.put, List.setIfInBounds_toArray, List.set_cons_zero, List.set_cons_succ]
  refine wpQuiet_step (fun K hK => ?_); rw [if_pos (by rfl)]
  refine ⟨.bool false, fun w' hC => qrun (by go_simp; rw [run_eq_arr _ _ lR (by omega)]; simp [h.out]), hK _ ?_⟩; clear hK K
  simp only [Act.put, List.setIfInBounds_toArray, List.set_cons_zero, List.set_cons_succ]
  refine wpQuiet_step (fun K hK => ?_); rw [if_pos (by rfl)]
  refine ⟨.bool false, fun w' hC => qrun (by go_simp), hK _ ?_⟩; clear hK K
  simp only [Act.put, List.setIfInBounds_toArray, List.set_cons_zero, List.set_cons_succ]
  refine wpQuiet_nil ?_
  intro w2 hC
  have hs2 := hC.size
  have h1 : w2.heap[w.heap.size]? = some (.cells (arrC X) 22 (0, 0)) := (heap_call hC h1)
  have hBw2 : Hid (Below w.heap.size w w2) := Lib.hid (below_call hBw1.out hC)
  clear hC
  go_wp2
  go_ret
  exact ⟨rfl, hBw2.out⟩


theorem near_byte (N k : Nat) (hN : 0 < N) : (((byteN N k : Nat) : Int) + (if N % 256 ^ k = 0 then -1 else 0)) % 256 = ((byteN (N - 1) k : Nat) : Int) ∧ (((byteN N k : Nat) : Int) + (if N % 256 ^ k = 0 then -1 else 0)) / 256 = (if N % 256 ^ (k + 1) = 0 then -1 else 0) := by
  have hM : 0 < 256 ^ k := Nat.pow_pos (by omega)
  have e1 := Nat.mod_add_div N (256 ^ k)
  have e3 : N % 256 ^ (k + 1) = N % 256 ^ k + 256 ^ k * (N / 256 ^ k % 256) := Nat.mod_pow_succ
  have hq : (N - 1) / 256 ^ k = if N % 256 ^ k = 0 then N / 256 ^ k - 1 else N / 256 ^ k := by
    split
    · rename_i h
      rw [h, Nat.zero_add] at e1
      have hpos : 0 < N / 256 ^ k := by
        rcases Nat.eq_zero_or_pos (N / 256 ^ k) with h0 | h0
        · rw [h0] at e1; omega
        · exact h0
      rw [Nat.div_eq_iff hM]
      have e4 : 256 ^ k * (N / 256 ^ k) = 256 ^ k * (N / 256 ^ k - 1) + 256 ^ k := by
        rw [← Nat.mul_succ]; congr 1; omega
      rw [Nat.mul_comm (N / 256 ^ k - 1)]
      omega
    · rename_i h
      have hl := Nat.mod_lt N hM
      rw [Nat.div_eq_iff hM, Nat.mul_comm (N / 256 ^ k)]
      omega
  unfold byteN
  rw [hq]
  by_cases h : N % 256 ^ k = 0
  · rw [if_pos h, if_pos h]
    rw [h, Nat.zero_add] at e1 e3
    have hpos : 0 < N / 256 ^ k := by
      rcases Nat.eq_zero_or_pos (N / 256 ^ k) with h0 | h0
      · rw [h0] at e1; omega
      · exact h0
    have hz : N % 256 ^ (k + 1) = 0 ↔ N / 256 ^ k % 256 = 0 := by
      rw [e3]
      constructor
      · intro h0
        rcases Nat.mul_eq_zero.1 h0 with h1 | h1
        · omega
        · exact h1
      · intro h0; rw [h0, Nat.mul_zero]
    by_cases hz0 : N / 256 ^ k % 256 = 0
    · rw [if_pos (hz.2 hz0)]; omega
    · rw [if_neg (fun h0 => hz0 (hz.1 h0))]; omega
  · rw [if_neg h, if_neg h, if_neg (by rw [e3]; omega)]
    omega


end Go.Proofs.YtmabidcocdflkaaDoor
