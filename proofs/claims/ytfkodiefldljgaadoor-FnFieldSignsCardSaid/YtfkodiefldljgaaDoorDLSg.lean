/- FnFieldSigns: the walk. -/
import Derived.Test.YtfkodiefldljgaaDoorD2
import Derived.Test.YtfkodiefldljgaaDoorLK2
import Derived.Test.YtfkodiefldljgaaDoorF8
namespace Go.Proofs.YtfkodiefldljgaaDoor
open Go.RowKit

theorem sign_zero (x : Nat) (h : x < pF) (hx : x = 0) : (0 : Int) = (((pF - x) % pF % 2 : Nat) : Int) := by
  subst hx; simp
theorem sign_odd (x : Nat) (h : x < pF) (hx : x % 2 = 1) : (0 : Int) = (((pF - x) % pF % 2 : Nat) : Int) := by
  have hp : pF % 2 = 1 := by unfold pF; omega
  rw [Nat.mod_eq_of_lt (show pF - x < pF by omega)]; omega
theorem sign_even (x : Nat) (h : x < pF) (hx : x % 2 = 0 ∧ 0 < x) : (1 : Int) = (((pF - x) % pF % 2 : Nat) : Int) := by
  have hp : pF % 2 = 1 := by unfold pF; omega
  rw [Nat.mod_eq_of_lt (show pF - x < pF by omega)]; omega

set_option maxHeartbeats 2000000 in
theorem Signs_zero (X : Nat) (h : Hid (valN X = 0)) (B : Nat) (w : World) (hD0 : Var 0 z5 B w) :
    Calls Tryd.prog 6 #[.agg (arrC X)] w fun e w' => e = .returned (.bool true) ∧ Below w.heap.size w w' := by
  have vX := valN_lt X
  obtain ⟨R, qR⟩ : ∃ u : Nat, u = (pF - valN X) % pF := ⟨_, rfl⟩
  have HR := Lib.hid qR; clear qR
  obtain ⟨T, qT⟩ : ∃ u : Nat, u = valN X := ⟨_, rfl⟩
  have HT := Lib.hid qT; clear qT
  have H1 : Hid ((0 : Int) = ((valN X % 2 : Nat) : Int)) := Lib.hid (by have := h.out; omega)
  have vR : valN R = R := valN_of_lt _ (by rw [HR.out]; exact mod_lt_p _)
  have H2 : Hid ((0 : Int) = ((valN R % 2 : Nat) : Int)) := Lib.hid (by rw [vR, HR.out]; have := h.out; exact sign_zero _ vX this)
  have hz : Hid (T = 0) := Lib.hid (by rw [HT.out]; have := h.out; omega)
  have H3 : Hid ((1 : Int) = ((valN 1 % 2 : Nat) : Int)) := Lib.hid (by decide +kernel)
  clear h vX vR
  go_enter Tryd.func6, Tryd.ntmps6
  go_wp2_with fail
  refine wp_named ?_
  intro w1 ew1
  have hs1 : w.heap.size + 1 ≤ w1.heap.size := by rw [ew1]; (try simp only [alloc_size, setRow_size]); omega
  replace h1 : w1.heap[w.heap.size]? = some (.cells (arrC X) 22 (0, 0)) := by rw [ew1]; exact (heap_new_at _ _ _ rfl)
  have hBw1 : Hid (Below w.heap.size w w1) := Lib.hid (by rw [ew1]; exact (below_alloc (Below.refl _ w) _))
  clear ew1
  refine wp_region_quiet (C := Below w1.heap.size w1) (by kernel_rfl) (by kernel_rfl) (Below.refl _ _).drew ?_
  simp only [List.toList_toArray]
  refine wpQuiet_step (fun K hK => ?_); rw [if_pos (by rfl)]
  refine ⟨.agg (arrC X), fun w' hC => qload _ _ rfl (w.heap.size) rfl _ _ _ h1 under32 rfl (info32_of (arrC X) (arrC_size _)) hC, hK _ ?_⟩; clear hK K
  simp only [Act.put, List.setIfInBounds_toArray, List.set_cons_zero, List.set_cons_succ]
  refine wpQuiet_step (fun K hK => ?_); rw [if_pos (by rfl)]
  refine ⟨.int .i64 0, fun w' hC => qcall 19 #[.agg (arrC X)] (by go_simp) hC (FieldIsNeg_any X w' 0 H1), hK _ ?_⟩; clear hK K
  simp only [Act.put, List.setIfInBounds_toArray, List.set_cons_zero, List.set_cons_succ]
  refine wpQuiet_step (fun K hK => ?_); rw [if_pos (by rfl)]
  refine ⟨.agg (arrC X), fun w' hC => qload _ _ rfl (w.heap.size) rfl _ _ _ h1 under32 rfl (info32_of (arrC X) (arrC_size _)) hC, hK _ ?_⟩; clear hK K
  simp only [Act.put, List.setIfInBounds_toArray, List.set_cons_zero, List.set_cons_succ]
  refine wpQuiet_step (fun K hK => ?_); rw [if_pos (by rfl)]
  refine ⟨.agg (arrC R), fun w' hC => qcall 12 #[.agg (arrC X)] (by go_simp) hC (FieldNeg_any X R B HR w' (hD0.later (below_call hBw1.out hC))), hK _ ?_⟩; clear hK K
  simp only [Act.put, List.setIfInBounds_toArray, List.set_cons_zero, List.set_cons_succ]
  refine wpQuiet_step (fun K hK => ?_); rw [if_pos (by rfl)]
  refine ⟨.int .i64 0, fun w' hC => qcall 19 #[.agg (arrC R)] (by go_simp) hC (FieldIsNeg_any R w' 0 H2), hK _ ?_⟩; clear hK K
  simp only [Act.put, List.setIfInBounds_toArray, List.set_cons_zero, List.set_cons_succ]
  refine wpQuiet_step (fun K hK => ?_); rw [if_pos (by rfl)]
  refine ⟨.int .i64 0, fun w' hC => qrun (by go_simp <;> rfl), hK _ ?_⟩; clear hK K
  simp only [Act.put, List.setIfInBounds_toArray, List.set_cons_zero, List.set_cons_succ]
  refine wpQuiet_step (fun K hK => ?_); rw [if_pos (by rfl)]
  refine ⟨.int .i64 0, fun w' hC => qrun (by go_simp), hK _ ?_⟩; clear hK K
  simp only [Act.put, List.setIfInBounds_toArray, List.set_cons_zero, List.set_cons_succ]
  refine wpQuiet_nil ?_
  intro w2 hC
  have hs2 := hC.size
  replace h1 : w2.heap[w.heap.size]? = some (.cells (arrC X) 22 (0, 0)) := (heap_call hC h1)
  have hBw2 : Hid (Below w.heap.size w w2) := Lib.hid (below_call hBw1.out hC)
  clear hC
  go_wp2_with (first
    | ((with_reducible refine at_dst 10 ?_); refine wpList_load_row rfl 22 _ rfl (w.heap.size) rfl 22 (arrC X) (0, 0) _ h1 under32 rfl (info32_of (arrC X) (arrC_size _)) ?_))
  refine (isZero_true X T HT hz _).mono ?_
  rintro e w3 ⟨rfl, hC3⟩
  have hs3 : w2.heap.size ≤ w3.heap.size := by have := hC3.size; (try simp only [alloc_size, setRow_size] at this); omega
  replace h1 : w3.heap[w.heap.size]? = some (.cells (arrC X) 22 (0, 0)) := (heap_call hC3 h1)
  have hBw3 : Hid (Below w.heap.size w w3) := Lib.hid (below_call hBw2.out hC3)
  clear hC3
  go_wp2_with fail
  refine (number_vv 1 (by omega) _).mono ?_
  rintro e w4 ⟨rfl, hC4⟩
  have hs4 : w3.heap.size ≤ w4.heap.size := by have := hC4.size; (try simp only [alloc_size, setRow_size] at this); omega
  replace h1 : w4.heap[w.heap.size]? = some (.cells (arrC X) 22 (0, 0)) := (heap_call hC4 h1)
  have hBw4 : Hid (Below w.heap.size w w4) := Lib.hid (below_call hBw3.out hC4)
  clear hC4
  go_wp2_with fail
  refine (FieldIsNeg_any 1 _ 1 H3).mono ?_
  rintro e w5 ⟨rfl, hC5⟩
  have hs5 : w4.heap.size ≤ w5.heap.size := by have := hC5.size; (try simp only [alloc_size, setRow_size] at this); omega
  replace h1 : w5.heap[w.heap.size]? = some (.cells (arrC X) 22 (0, 0)) := (heap_call hC5 h1)
  have hBw5 : Hid (Below w.heap.size w w5) := Lib.hid (below_call hBw4.out hC5)
  clear hC5
  go_wp2
  go_ret
  exact ⟨rfl, hBw5.out⟩

set_option maxHeartbeats 2000000 in
theorem Signs_odd (X : Nat) (h : Hid (valN X % 2 = 1)) (B : Nat) (w : World) (hD0 : Var 0 z5 B w) :
    Calls Tryd.prog 6 #[.agg (arrC X)] w fun e w' => e = .returned (.bool true) ∧ Below w.heap.size w w' := by
  have vX := valN_lt X
  obtain ⟨R, qR⟩ : ∃ u : Nat, u = (pF - valN X) % pF := ⟨_, rfl⟩
  have HR := Lib.hid qR; clear qR
  obtain ⟨T, qT⟩ : ∃ u : Nat, u = valN X := ⟨_, rfl⟩
  have HT := Lib.hid qT; clear qT
  have H1 : Hid ((1 : Int) = ((valN X % 2 : Nat) : Int)) := Lib.hid (by have := h.out; omega)
  have vR : valN R = R := valN_of_lt _ (by rw [HR.out]; exact mod_lt_p _)
  have H2 : Hid ((0 : Int) = ((valN R % 2 : Nat) : Int)) := Lib.hid (by rw [vR, HR.out]; have := h.out; exact sign_odd _ vX this)
  have hz : Hid (¬ T = 0) := Lib.hid (by rw [HT.out]; have := h.out; omega)
  clear h vX vR
  go_enter Tryd.func6, Tryd.ntmps6
  go_wp2_with fail
  refine wp_named ?_
  intro w1 ew1
  have hs1 : w.heap.size + 1 ≤ w1.heap.size := by rw [ew1]; (try simp only [alloc_size, setRow_size]); omega
  replace h1 : w1.heap[w.heap.size]? = some (.cells (arrC X) 22 (0, 0)) := by rw [ew1]; exact (heap_new_at _ _ _ rfl)
  have hBw1 : Hid (Below w.heap.size w w1) := Lib.hid (by rw [ew1]; exact (below_alloc (Below.refl _ w) _))
  clear ew1
  refine wp_region_quiet (C := Below w1.heap.size w1) (by kernel_rfl) (by kernel_rfl) (Below.refl _ _).drew ?_
  simp only [List.toList_toArray]
  refine wpQuiet_step (fun K hK => ?_); rw [if_pos (by rfl)]
  refine ⟨.agg (arrC X), fun w' hC => qload _ _ rfl (w.heap.size) rfl _ _ _ h1 under32 rfl (info32_of (arrC X) (arrC_size _)) hC, hK _ ?_⟩; clear hK K
  simp only [Act.put, List.setIfInBounds_toArray, List.set_cons_zero, List.set_cons_succ]
  refine wpQuiet_step (fun K hK => ?_); rw [if_pos (by rfl)]
  refine ⟨.int .i64 1, fun w' hC => qcall 19 #[.agg (arrC X)] (by go_simp) hC (FieldIsNeg_any X w' 1 H1), hK _ ?_⟩; clear hK K
  simp only [Act.put, List.setIfInBounds_toArray, List.set_cons_zero, List.set_cons_succ]
  refine wpQuiet_step (fun K hK => ?_); rw [if_pos (by rfl)]
  refine ⟨.agg (arrC X), fun w' hC => qload _ _ rfl (w.heap.size) rfl _ _ _ h1 under32 rfl (info32_of (arrC X) (arrC_size _)) hC, hK _ ?_⟩; clear hK K
  simp only [Act.put, List.setIfInBounds_toArray, List.set_cons_zero, List.set_cons_succ]
  refine wpQuiet_step (fun K hK => ?_); rw [if_pos (by rfl)]
  refine ⟨.agg (arrC R), fun w' hC => qcall 12 #[.agg (arrC X)] (by go_simp) hC (FieldNeg_any X R B HR w' (hD0.later (below_call hBw1.out hC))), hK _ ?_⟩; clear hK K
  simp only [Act.put, List.setIfInBounds_toArray, List.set_cons_zero, List.set_cons_succ]
  refine wpQuiet_step (fun K hK => ?_); rw [if_pos (by rfl)]
  refine ⟨.int .i64 0, fun w' hC => qcall 19 #[.agg (arrC R)] (by go_simp) hC (FieldIsNeg_any R w' 0 H2), hK _ ?_⟩; clear hK K
  simp only [Act.put, List.setIfInBounds_toArray, List.set_cons_zero, List.set_cons_succ]
  refine wpQuiet_step (fun K hK => ?_); rw [if_pos (by rfl)]
  refine ⟨.int .i64 1, fun w' hC => qrun (by go_simp <;> rfl), hK _ ?_⟩; clear hK K
  simp only [Act.put, List.setIfInBounds_toArray, List.set_cons_zero, List.set_cons_succ]
  refine wpQuiet_step (fun K hK => ?_); rw [if_pos (by rfl)]
  refine ⟨.int .i64 1, fun w' hC => qrun (by go_simp), hK _ ?_⟩; clear hK K
  simp only [Act.put, List.setIfInBounds_toArray, List.set_cons_zero, List.set_cons_succ]
  refine wpQuiet_nil ?_
  intro w2 hC
  have hs2 := hC.size
  replace h1 : w2.heap[w.heap.size]? = some (.cells (arrC X) 22 (0, 0)) := (heap_call hC h1)
  have hBw2 : Hid (Below w.heap.size w w2) := Lib.hid (below_call hBw1.out hC)
  clear hC
  go_wp2_with (first
    | ((with_reducible refine at_dst 10 ?_); refine wpList_load_row rfl 22 _ rfl (w.heap.size) rfl 22 (arrC X) (0, 0) _ h1 under32 rfl (info32_of (arrC X) (arrC_size _)) ?_))
  refine (isZero_false X T HT hz _).mono ?_
  rintro e w3 ⟨rfl, hC3⟩
  have hs3 : w2.heap.size ≤ w3.heap.size := by have := hC3.size; (try simp only [alloc_size, setRow_size] at this); omega
  replace h1 : w3.heap[w.heap.size]? = some (.cells (arrC X) 22 (0, 0)) := (heap_call hC3 h1)
  have hBw3 : Hid (Below w.heap.size w w3) := Lib.hid (below_call hBw2.out hC3)
  clear hC3
  go_wp2
  go_ret
  exact ⟨rfl, hBw3.out⟩

set_option maxHeartbeats 2000000 in
theorem Signs_even (X : Nat) (h : Hid (valN X % 2 = 0 ∧ 0 < valN X)) (B : Nat) (w : World) (hD0 : Var 0 z5 B w) :
    Calls Tryd.prog 6 #[.agg (arrC X)] w fun e w' => e = .returned (.bool true) ∧ Below w.heap.size w w' := by
  have vX := valN_lt X
  obtain ⟨R, qR⟩ : ∃ u : Nat, u = (pF - valN X) % pF := ⟨_, rfl⟩
  have HR := Lib.hid qR; clear qR
  obtain ⟨T, qT⟩ : ∃ u : Nat, u = valN X := ⟨_, rfl⟩
  have HT := Lib.hid qT; clear qT
  have H1 : Hid ((0 : Int) = ((valN X % 2 : Nat) : Int)) := Lib.hid (by have := h.out; omega)
  have vR : valN R = R := valN_of_lt _ (by rw [HR.out]; exact mod_lt_p _)
  have H2 : Hid ((1 : Int) = ((valN R % 2 : Nat) : Int)) := Lib.hid (by rw [vR, HR.out]; have := h.out; exact sign_even _ vX this)
  have hz : Hid (¬ T = 0) := Lib.hid (by rw [HT.out]; have := h.out; omega)
  clear h vX vR
  go_enter Tryd.func6, Tryd.ntmps6
  go_wp2_with fail
  refine wp_named ?_
  intro w1 ew1
  have hs1 : w.heap.size + 1 ≤ w1.heap.size := by rw [ew1]; (try simp only [alloc_size, setRow_size]); omega
  replace h1 : w1.heap[w.heap.size]? = some (.cells (arrC X) 22 (0, 0)) := by rw [ew1]; exact (heap_new_at _ _ _ rfl)
  have hBw1 : Hid (Below w.heap.size w w1) := Lib.hid (by rw [ew1]; exact (below_alloc (Below.refl _ w) _))
  clear ew1
  refine wp_region_quiet (C := Below w1.heap.size w1) (by kernel_rfl) (by kernel_rfl) (Below.refl _ _).drew ?_
  simp only [List.toList_toArray]
  refine wpQuiet_step (fun K hK => ?_); rw [if_pos (by rfl)]
  refine ⟨.agg (arrC X), fun w' hC => qload _ _ rfl (w.heap.size) rfl _ _ _ h1 under32 rfl (info32_of (arrC X) (arrC_size _)) hC, hK _ ?_⟩; clear hK K
  simp only [Act.put, List.setIfInBounds_toArray, List.set_cons_zero, List.set_cons_succ]
  refine wpQuiet_step (fun K hK => ?_); rw [if_pos (by rfl)]
  refine ⟨.int .i64 0, fun w' hC => qcall 19 #[.agg (arrC X)] (by go_simp) hC (FieldIsNeg_any X w' 0 H1), hK _ ?_⟩; clear hK K
  simp only [Act.put, List.setIfInBounds_toArray, List.set_cons_zero, List.set_cons_succ]
  refine wpQuiet_step (fun K hK => ?_); rw [if_pos (by rfl)]
  refine ⟨.agg (arrC X), fun w' hC => qload _ _ rfl (w.heap.size) rfl _ _ _ h1 under32 rfl (info32_of (arrC X) (arrC_size _)) hC, hK _ ?_⟩; clear hK K
  simp only [Act.put, List.setIfInBounds_toArray, List.set_cons_zero, List.set_cons_succ]
  refine wpQuiet_step (fun K hK => ?_); rw [if_pos (by rfl)]
  refine ⟨.agg (arrC R), fun w' hC => qcall 12 #[.agg (arrC X)] (by go_simp) hC (FieldNeg_any X R B HR w' (hD0.later (below_call hBw1.out hC))), hK _ ?_⟩; clear hK K
  simp only [Act.put, List.setIfInBounds_toArray, List.set_cons_zero, List.set_cons_succ]
  refine wpQuiet_step (fun K hK => ?_); rw [if_pos (by rfl)]
  refine ⟨.int .i64 1, fun w' hC => qcall 19 #[.agg (arrC R)] (by go_simp) hC (FieldIsNeg_any R w' 1 H2), hK _ ?_⟩; clear hK K
  simp only [Act.put, List.setIfInBounds_toArray, List.set_cons_zero, List.set_cons_succ]
  refine wpQuiet_step (fun K hK => ?_); rw [if_pos (by rfl)]
  refine ⟨.int .i64 1, fun w' hC => qrun (by go_simp <;> rfl), hK _ ?_⟩; clear hK K
  simp only [Act.put, List.setIfInBounds_toArray, List.set_cons_zero, List.set_cons_succ]
  refine wpQuiet_step (fun K hK => ?_); rw [if_pos (by rfl)]
  refine ⟨.int .i64 1, fun w' hC => qrun (by go_simp), hK _ ?_⟩; clear hK K
  simp only [Act.put, List.setIfInBounds_toArray, List.set_cons_zero, List.set_cons_succ]
  refine wpQuiet_nil ?_
  intro w2 hC
  have hs2 := hC.size
  replace h1 : w2.heap[w.heap.size]? = some (.cells (arrC X) 22 (0, 0)) := (heap_call hC h1)
  have hBw2 : Hid (Below w.heap.size w w2) := Lib.hid (below_call hBw1.out hC)
  clear hC
  go_wp2_with (first
    | ((with_reducible refine at_dst 10 ?_); refine wpList_load_row rfl 22 _ rfl (w.heap.size) rfl 22 (arrC X) (0, 0) _ h1 under32 rfl (info32_of (arrC X) (arrC_size _)) ?_))
  refine (isZero_false X T HT hz _).mono ?_
  rintro e w3 ⟨rfl, hC3⟩
  have hs3 : w2.heap.size ≤ w3.heap.size := by have := hC3.size; (try simp only [alloc_size, setRow_size] at this); omega
  replace h1 : w3.heap[w.heap.size]? = some (.cells (arrC X) 22 (0, 0)) := (heap_call hC3 h1)
  have hBw3 : Hid (Below w.heap.size w w3) := Lib.hid (below_call hBw2.out hC3)
  clear hC3
  go_wp2
  go_ret
  exact ⟨rfl, hBw3.out⟩

theorem Signs_walk (X : Nat) (_ : X < 256 ^ 32) (B : Nat) (w : World) (hD0 : Var 0 z5 B w) : Calls Tryd.prog 6 #[.agg (arrC X)] w fun e w' => e = .returned (.bool true) ∧ Below w.heap.size w w' := by
  by_cases h0 : valN X = 0
  · exact Signs_zero X (Lib.hid h0) B w hD0
  · by_cases h1 : valN X % 2 = 1
    · exact Signs_odd X (Lib.hid h1) B w hD0
    · exact Signs_even X (Lib.hid ⟨by omega, by omega⟩) B w hD0

end Go.Proofs.YtfkodiefldljgaaDoor
