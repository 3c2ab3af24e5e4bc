/- FnFieldNegates: the walk. -/
import Derived.Test.YtfkodiefldljgaaDoorD2
import Derived.Test.YtfkodiefldljgaaDoorLK2
import Derived.Test.YtfkodiefldljgaaDoorLP
namespace Go.Proofs.YtfkodiefldljgaaDoor
open Go.RowKit

theorem neg_add (x : Nat) (h : x < pF) : 0 = (x + (pF - x) % pF) % pF := by
  rcases Nat.eq_zero_or_pos x with rfl | h0
  · simp
  · rw [Nat.mod_eq_of_lt (show pF - x < pF by omega), show x + (pF - x) = pF by omega, Nat.mod_self]
theorem neg_neg (x : Nat) (h : x < pF) : x = (pF - (pF - x) % pF) % pF := by
  rcases Nat.eq_zero_or_pos x with rfl | h0
  · simp
  · rw [Nat.mod_eq_of_lt (show pF - x < pF by omega), show pF - (pF - x) = x by omega, Nat.mod_eq_of_lt h]
theorem near_to (N R : Nat) (hN : 0 < N) (hR : Hid (R = N - 1)) (w : World) : Calls Tryd.prog 16 #[.agg (arrC N), .int .i64 (-1)] w fun e w' => e = .returned (.agg (arrC R)) ∧ Below w.heap.size w w' := by
  rw [hR.out]; exact near_any N hN w

set_option maxHeartbeats 2000000 in
theorem Negates_raw (X : Nat) (B : Nat) (w : World) (hD0 : Var 0 z5 B w) :
    Calls Tryd.prog 4 #[.agg (arrC X)] w fun e w' => e = .returned (.bool true) ∧ Below w.heap.size w w' := by
  obtain ⟨R, qR⟩ : ∃ u : Nat, u = (pF - valN X) % pF := ⟨_, rfl⟩
  have HR := Lib.hid qR; clear qR
  obtain ⟨T, qT⟩ : ∃ u : Nat, u = valN X := ⟨_, rfl⟩
  have HT := Lib.hid qT; clear qT
  obtain ⟨Q, qQ⟩ : ∃ u : Nat, u = pF - 1 := ⟨_, rfl⟩
  have HQ := Lib.hid qQ; clear qQ
  have lT : T < 256 ^ 32 := by rw [HT.out]; exact Nat.lt_trans (valN_lt _) p_lt
  have lQ : Q < 256 ^ 32 := by rw [HQ.out]; have := p_lt; omega
  have vR : valN R = R := valN_of_lt _ (by rw [HR.out]; exact mod_lt_p _)
  have vX := valN_lt X
  have HZ : Hid (0 = (valN X + valN R) % pF) := Lib.hid (by rw [vR, HR.out]; exact neg_add _ vX)
  have HT2 : Hid (T = (pF - valN R) % pF) := Lib.hid (by rw [vR, HR.out]; exact HT.out.trans (neg_neg _ vX))
  have HP := HT; clear HT; have HT := HT2; clear HT2
  have HQ2 : Hid (Q = pF - 1) := HQ; clear HQ; have HQ : Hid (Q = (pF - valN 1) % pF) := Lib.hid (by rw [HQ2.out]; decide +kernel)
  clear vR vX
  go_enter Tryd.func4, Tryd.ntmps4
  go_wp2_with fail
  refine wp_named ?_
  intro w1 ew1
  have hs1 : w.heap.size + 1 ≤ w1.heap.size := by rw [ew1]; (try simp only [alloc_size, setRow_size]); omega
  replace h1 : w1.heap[w.heap.size]? = some (.cells (arrC X) 22 (0, 0)) := by rw [ew1]; exact (heap_new_at _ _ _ rfl)
  have hBw1 : Hid (Below w.heap.size w w1) := Lib.hid (by rw [ew1]; exact (below_alloc (Below.refl _ w) _))
  clear ew1
  refine wp_region_quiet (C := Below w1.heap.size w1) (by kernel_rfl) (by kernel_rfl) (Below.refl _ _).drew ?_
  simp only [List.toList_toArray]
  refine wpQuiet_step (fun K hK => ?_); rw [if_pos (by rfl)]
  refine ⟨.agg (arrC X), fun w' hC => qload _ _ rfl (w.heap.size) rfl _ _ _ h1 under32 rfl (info32_of (arrC X) (arrC_size _)) hC, hK _ ?_⟩; clear hK K
  simp only [Act.put, List.setIfInBounds_toArray, List.set_cons_zero, List.set_cons_succ]
  refine wpQuiet_step (fun K hK => ?_); rw [if_pos (by rfl)]
  refine ⟨.agg (arrC X), fun w' hC => qload _ _ rfl (w.heap.size) rfl _ _ _ h1 under32 rfl (info32_of (arrC X) (arrC_size _)) hC, hK _ ?_⟩; clear hK K
  simp only [Act.put, List.setIfInBounds_toArray, List.set_cons_zero, List.set_cons_succ]
  refine wpQuiet_step (fun K hK => ?_); rw [if_pos (by rfl)]
  refine ⟨.agg (arrC R), fun w' hC => qcall 12 #[.agg (arrC X)] (by go_simp) hC (FieldNeg_any X R B HR w' (hD0.later (below_call hBw1.out hC))), hK _ ?_⟩; clear hK K
  simp only [Act.put, List.setIfInBounds_toArray, List.set_cons_zero, List.set_cons_succ]
  refine wpQuiet_step (fun K hK => ?_); rw [if_pos (by rfl)]
  refine ⟨.agg (arrC 0), fun w' hC => qcall 11 #[.agg (arrC X), .agg (arrC R)] (by go_simp) hC (FieldAdd_to X R 0 HZ w'), hK _ ?_⟩; clear hK K
  simp only [Act.put, List.setIfInBounds_toArray, List.set_cons_zero, List.set_cons_succ]
  refine wpQuiet_step (fun K hK => ?_); rw [if_pos (by rfl)]
  refine ⟨.agg (arrC 0), fun w' hC => qcall 13 #[] (by go_simp) hC (zero_vv w'), hK _ ?_⟩; clear hK K
  simp only [Act.put, List.setIfInBounds_toArray, List.set_cons_zero, List.set_cons_succ]
  refine wpQuiet_step (fun K hK => ?_); rw [if_pos (by rfl)]
  refine ⟨.bool true, fun w' hC => qrun (by go_simp; rw [run_eq_arr _ _ (by omega) (by omega)]; simp), hK _ ?_⟩; clear hK K
  simp only [Act.put, List.setIfInBounds_toArray, List.set_cons_zero, List.set_cons_succ]
  refine wpQuiet_step (fun K hK => ?_); rw [if_pos (by rfl)]
  refine ⟨.bool true, fun w' hC => qrun (by go_simp), hK _ ?_⟩; clear hK K
  simp only [Act.put, List.setIfInBounds_toArray, List.set_cons_zero, List.set_cons_succ]
  refine wpQuiet_step (fun K hK => ?_); rw [if_pos (by rfl)]
  refine ⟨.agg (arrC X), fun w' hC => qload _ _ rfl (w.heap.size) rfl _ _ _ h1 under32 rfl (info32_of (arrC X) (arrC_size _)) hC, hK _ ?_⟩; clear hK K
  simp only [Act.put, List.setIfInBounds_toArray, List.set_cons_zero, List.set_cons_succ]
  refine wpQuiet_step (fun K hK => ?_); rw [if_pos (by rfl)]
  refine ⟨.agg (arrC R), fun w' hC => qcall 12 #[.agg (arrC X)] (by go_simp) hC (FieldNeg_any X R B HR w' (hD0.later (below_call hBw1.out hC))), hK _ ?_⟩; clear hK K
  simp only [Act.put, List.setIfInBounds_toArray, List.set_cons_zero, List.set_cons_succ]
  refine wpQuiet_step (fun K hK => ?_); rw [if_pos (by rfl)]
  refine ⟨.agg (arrC T), fun w' hC => qcall 12 #[.agg (arrC R)] (by go_simp) hC (FieldNeg_any R T B HT w' (hD0.later (below_call hBw1.out hC))), hK _ ?_⟩; clear hK K
  simp only [Act.put, List.setIfInBounds_toArray, List.set_cons_zero, List.set_cons_succ]
  refine wpQuiet_step (fun K hK => ?_); rw [if_pos (by rfl)]
  refine ⟨.agg (arrC X), fun w' hC => qload _ _ rfl (w.heap.size) rfl _ _ _ h1 under32 rfl (info32_of (arrC X) (arrC_size _)) hC, hK _ ?_⟩; clear hK K
  simp only [Act.put, List.setIfInBounds_toArray, List.set_cons_zero, List.set_cons_succ]
  refine wpQuiet_step (fun K hK => ?_); rw [if_pos (by rfl)]
  refine ⟨.agg (arrC T), fun w' hC => qcall 14 #[.agg (arrC X)] (by go_simp) hC (plain_to X T HP w'), hK _ ?_⟩; clear hK K
  simp only [Act.put, List.setIfInBounds_toArray, List.set_cons_zero, List.set_cons_succ]
  refine wpQuiet_step (fun K hK => ?_); rw [if_pos (by rfl)]
  refine ⟨.bool true, fun w' hC => qrun (by go_simp; rw [run_eq_arr _ _ lT lT]; simp), hK _ ?_⟩; clear hK K
  simp only [Act.put, List.setIfInBounds_toArray, List.set_cons_zero, List.set_cons_succ]
  refine wpQuiet_step (fun K hK => ?_); rw [if_pos (by rfl)]
  refine ⟨.bool true, fun w' hC => qrun (by go_simp), hK _ ?_⟩; clear hK K
  simp only [Act.put, List.setIfInBounds_toArray, List.set_cons_zero, List.set_cons_succ]
  refine wpQuiet_step (fun K hK => ?_); rw [if_pos (by rfl)]
  refine ⟨.bool true, fun w' hC => qrun (by go_simp), hK _ ?_⟩; clear hK K
  simp only [Act.put, List.setIfInBounds_toArray, List.set_cons_zero, List.set_cons_succ]
  refine wpQuiet_step (fun K hK => ?_); rw [if_pos (by rfl)]
  refine ⟨.agg (arrC 1), fun w' hC => qcall 15 #[.int .i64 1] (by go_simp) hC (number_vv 1 (by omega) w'), hK _ ?_⟩; clear hK K
  simp only [Act.put, List.setIfInBounds_toArray, List.set_cons_zero, List.set_cons_succ]
  refine wpQuiet_step (fun K hK => ?_); rw [if_pos (by rfl)]
  refine ⟨.agg (arrC Q), fun w' hC => qcall 12 #[.agg (arrC 1)] (by go_simp) hC (FieldNeg_any 1 Q B HQ w' (hD0.later (below_call hBw1.out hC))), hK _ ?_⟩; clear hK K
  simp only [Act.put, List.setIfInBounds_toArray, List.set_cons_zero, List.set_cons_succ]
  refine wpQuiet_step (fun K hK => ?_); rw [if_pos (by rfl)]
  refine ⟨.agg (arrC pF), fun w' hC => qcall 17 #[] (by go_simp) hC (prime_v w'), hK _ ?_⟩; clear hK K
  simp only [Act.put, List.setIfInBounds_toArray, List.set_cons_zero, List.set_cons_succ]
  refine wpQuiet_step (fun K hK => ?_); rw [if_pos (by rfl)]
  refine ⟨.agg (arrC Q), fun w' hC => qcall 16 #[.agg (arrC pF), .int .i64 (-1)] (by go_simp) hC (near_to pF Q (by decide +kernel) HQ2 w'), hK _ ?_⟩; clear hK K
  simp only [Act.put, List.setIfInBounds_toArray, List.set_cons_zero, List.set_cons_succ]
  refine wpQuiet_step (fun K hK => ?_); rw [if_pos (by rfl)]
  refine ⟨.bool true, fun w' hC => qrun (by go_simp; rw [run_eq_arr _ _ lQ lQ]; simp), hK _ ?_⟩; clear hK K
  simp only [Act.put, List.setIfInBounds_toArray, List.set_cons_zero, List.set_cons_succ]
  refine wpQuiet_step (fun K hK => ?_); rw [if_pos (by rfl)]
  refine ⟨.bool true, fun w' hC => qrun (by go_simp), hK _ ?_⟩; clear hK K
  simp only [Act.put, List.setIfInBounds_toArray, List.set_cons_zero, List.set_cons_succ]
  refine wpQuiet_step (fun K hK => ?_); rw [if_pos (by rfl)]
  refine ⟨.bool true, fun w' hC => qrun (by go_simp), hK _ ?_⟩; clear hK K
  simp only [Act.put, List.setIfInBounds_toArray, List.set_cons_zero, List.set_cons_succ]
  refine wpQuiet_nil ?_
  intro w2 hC
  have hs2 := hC.size
  replace h1 : w2.heap[w.heap.size]? = some (.cells (arrC X) 22 (0, 0)) := (heap_call hC h1)
  have hBw2 : Hid (Below w.heap.size w w2) := Lib.hid (below_call hBw1.out hC)
  clear hC
  go_wp2
  go_ret
  exact ⟨rfl, hBw2.out⟩

theorem Negates_walk (X : Nat) (_ : X < 256 ^ 32) (B : Nat) (w : World) (hD0 : Var 0 z5 B w) : Calls Tryd.prog 4 #[.agg (arrC X)] w fun e w' => e = .returned (.bool true) ∧ Below w.heap.size w w' := Negates_raw X B w hD0

end Go.Proofs.YtfkodiefldljgaaDoor
