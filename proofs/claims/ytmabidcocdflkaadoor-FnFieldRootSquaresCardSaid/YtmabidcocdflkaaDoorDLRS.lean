/- FnFieldRootSquares: the walk. -/
import Derived.Test.YtmabidcocdflkaaDoorFSR
import Derived.Test.YtmabidcocdflkaaDoorSqL
import Derived.Test.YtmabidcocdflkaaDoorLK2
import Derived.Test.YtmabidcocdflkaaDoorD2
import Derived.Test.YtmabidcocdflkaaDoorFSq
import Derived.Test.YtmabidcocdflkaaDoorFM
import Derived.Test.YtmabidcocdflkaaDoorF8
set_option linter.unusedSimpArgs false
set_option linter.unusedVariables false
namespace Go.Proofs.YtmabidcocdflkaaDoor
open Go.RowKit

set_option maxHeartbeats 4000000 in
theorem RtSq_v0 (X Y : Nat) (h : Hid (¬ valN X = 0 ∧ valN Y = 0)) (B : Nat) (w : World) (hD0 : Var 1 z5 B w) (hD1 : Var 0 i5 B w) :
    Calls Tryd.prog 4 #[.agg (arrC X), .agg (arrC Y)] w fun e w' => e = .returned (.bool true) ∧ Below w.heap.size w w' := by
  obtain ⟨R, qR⟩ : ∃ u : Nat, u = sqR (valN X) (valN Y) := ⟨_, rfl⟩
  have HR := Lib.hid qR; clear qR
  obtain ⟨Q, qQ⟩ : ∃ u : Nat, u = (pF - valN 1) % pF := ⟨_, rfl⟩
  have HQ := Lib.hid qQ; clear qQ
  obtain ⟨I, qI⟩ : ∃ u : Nat, u = sqR (valN Q) (valN 1) := ⟨_, rfl⟩
  have HI := Lib.hid qI; clear qI
  obtain ⟨TY, qTY⟩ : ∃ u : Nat, u = valN Y := ⟨_, rfl⟩
  have HTY := Lib.hid qTY; clear qTY
  obtain ⟨A, qA⟩ : ∃ u : Nat, u = valN R * valN R % pF := ⟨_, rfl⟩
  have HA := Lib.hid qA; clear qA
  obtain ⟨L, qL⟩ : ∃ u : Nat, u = valN A * valN Y % pF := ⟨_, rfl⟩
  have HL := Lib.hid qL; clear qL
  have vX := valN_lt X; have vY := valN_lt Y
  have v1 : valN 1 = 1 := valN_of_lt _ (by unfold pF; omega)
  have eQ1 : Q = pF - 1 := by rw [HQ.out, v1, Nat.mod_eq_of_lt (by unfold pF; omega)]
  have vQ : valN Q = pF - 1 := by rw [valN_of_lt _ (by rw [eQ1]; unfold pF; omega)]; exact eQ1
  have eI : I = iN := by rw [HI.out, vQ, v1]; exact m1_way.2
  have vI : valN I = iN := by rw [valN_of_lt _ (by rw [eI]; exact iN_lt)]; exact eI
  have vR : valN R = R := valN_of_lt _ (by rw [HR.out]; exact sqR_lt _ _)
  have vA : valN A = A := valN_of_lt _ (by rw [HA.out]; exact mod_lt_p _)
  have HZI : Hid ((1 : Int) = if sqW (valN Q) (valN 1) then 1 else 0) := Lib.hid (by rw [vQ, v1, m1_way.1]; rfl)
  have HIQ : Hid (Q = valN I * valN I % pF) := Lib.hid (by rw [vI, iN_sq]; exact eQ1)
  have HRn : Hid ((0 : Int) = ((valN R % 2 : Nat) : Int)) := Lib.hid (by rw [vR, HR.out, sqR_even]; rfl)
  have lQ : Q < 256 ^ 32 := by rw [eQ1]; have := p_lt; omega
  have lR : R < 256 ^ 32 := by rw [HR.out]; exact Nat.lt_trans (sqR_lt _ _) p_lt
  have lL : L < 256 ^ 32 := by rw [HL.out]; exact Nat.lt_trans (mod_lt_p _) p_lt
  have e1 : sqW (valN X) (valN Y) = false := by rw [h.out.2, sqW_v0 _ vX]; exact decide_eq_false h.out.1
  have HZ : Hid ((0 : Int) = if sqW (valN X) (valN Y) then 1 else 0) := Lib.hid (by rw [e1]; rfl)
  have hzy : Hid (TY = 0) := Lib.hid (by rw [HTY.out]; exact h.out.2)
  have hR0 : Hid (R = 0) := Lib.hid (by rw [HR.out, h.out.2]; exact sqR_v0 _)
  clear h vX vY vA v1 vQ vI vR eI eQ1 e1
  have e1 := fun u : World => run_eq_arr Q Q lQ lQ u
  rw [show (decide (Q = Q)) = true from by simp] at e1
  have hBl := hD0.1
  go_enter Tryd.func4, Tryd.ntmps4
  go_wp2_with (first
    | ((with_reducible refine at_dst 11 ?_); refine wpList_load_row rfl 22 _ rfl (w.heap.size) rfl 22 (arrC X) (0, 0) _ (heap_old _ (heap_new_at _ _ _ rfl)) under32 rfl (info32_of (arrC X) (arrC_size _)) ?_)
    | ((with_reducible refine at_dst 12 ?_); refine wpList_load_row rfl 22 _ rfl (w.heap.size + 1) rfl 22 (arrC Y) (0, 0) _ (heap_new_at _ _ _ (by simp only [alloc_size, setRow_size])) under32 rfl (info32_of (arrC Y) (arrC_size _)) ?_))
  refine (FieldSqrt_to X Y R 0 HR HZ B _ (hD0.later (below_alloc (below_alloc (Below.refl _ w) _) _)) (hD1.later (below_alloc (below_alloc (Below.refl _ w) _) _))).mono ?_
  rintro e w1 ⟨rfl, hC1⟩
  have hs1 : w.heap.size + 1 + 1 ≤ w1.heap.size := by have := hC1.size; (try simp only [alloc_size, setRow_size] at this); omega
  replace h2 : w1.heap[w.heap.size]? = some (.cells (arrC X) 22 (0, 0)) := (heap_call hC1 (heap_old _ (heap_new_at _ _ _ rfl)))
  replace h3 : w1.heap[w.heap.size + 1]? = some (.cells (arrC Y) 22 (0, 0)) := (heap_call hC1 (heap_new_at _ _ _ (by simp only [alloc_size, setRow_size])))
  have hBw1 : Hid (Below w.heap.size w w1) := Lib.hid (below_call (below_alloc (below_alloc (Below.refl _ w) _) _) hC1)
  clear hC1
  go_wp2_with (first
    | ((with_reducible refine at_store 5 ?_); refine wpList_store_row rfl 22 _ _ rfl (w1.heap.size) (arrC R) rfl rfl 22 (zL) (heap_new_at _ _ _ rfl) (info32_of (arrC R) (arrC_size _)) (zL_size.trans (arrC_size _).symm) (arrC_one _) ?_))
  refine (number_vv 1 (by omega) _).mono ?_
  rintro e w2 ⟨rfl, hC2⟩
  have hs2 : w1.heap.size + 1 ≤ w2.heap.size := by have := hC2.size; (try simp only [alloc_size, setRow_size] at this); omega
  replace h2 : w2.heap[w.heap.size]? = some (.cells (arrC X) 22 (0, 0)) := (heap_call hC2 (heap_row _ (by omega) (heap_old _ h2)))
  replace h3 : w2.heap[w.heap.size + 1]? = some (.cells (arrC Y) 22 (0, 0)) := (heap_call hC2 (heap_row _ (by omega) (heap_old _ h3)))
  replace h5 : w2.heap[w1.heap.size]? = some (.cells (arrC R) 22 (0, 0)) := (heap_call hC2 (setRow_heap _ _ _ _ _ _ (heap_new_at _ _ _ rfl)))
  have hBw2 : Hid (Below w.heap.size w w2) := Lib.hid (below_call (below_setRow (below_alloc hBw1.out _) (by omega) _) hC2)
  clear hC2
  go_wp2_with fail
  refine (FieldNeg_any 1 Q B HQ _ (hD0.later hBw2.out)).mono ?_
  rintro e w3 ⟨rfl, hC3⟩
  have hs3 : w2.heap.size ≤ w3.heap.size := by have := hC3.size; (try simp only [alloc_size, setRow_size] at this); omega
  replace h2 : w3.heap[w.heap.size]? = some (.cells (arrC X) 22 (0, 0)) := (heap_call hC3 h2)
  replace h3 : w3.heap[w.heap.size + 1]? = some (.cells (arrC Y) 22 (0, 0)) := (heap_call hC3 h3)
  replace h5 : w3.heap[w1.heap.size]? = some (.cells (arrC R) 22 (0, 0)) := (heap_call hC3 h5)
  have hBw3 : Hid (Below w.heap.size w w3) := Lib.hid (below_call hBw2.out hC3)
  clear hC3
  go_wp2_with fail
  refine (number_vv 1 (by omega) _).mono ?_
  rintro e w4 ⟨rfl, hC4⟩
  have hs4 : w3.heap.size ≤ w4.heap.size := by have := hC4.size; (try simp only [alloc_size, setRow_size] at this); omega
  replace h2 : w4.heap[w.heap.size]? = some (.cells (arrC X) 22 (0, 0)) := (heap_call hC4 h2)
  replace h3 : w4.heap[w.heap.size + 1]? = some (.cells (arrC Y) 22 (0, 0)) := (heap_call hC4 h3)
  replace h5 : w4.heap[w1.heap.size]? = some (.cells (arrC R) 22 (0, 0)) := (heap_call hC4 h5)
  have hBw4 : Hid (Below w.heap.size w w4) := Lib.hid (below_call hBw3.out hC4)
  clear hC4
  go_wp2_with fail
  refine (FieldSqrt_to Q 1 I 1 HI HZI B _ (hD0.later hBw4.out) (hD1.later hBw4.out)).mono ?_
  rintro e w5 ⟨rfl, hC5⟩
  have hs5 : w4.heap.size ≤ w5.heap.size := by have := hC5.size; (try simp only [alloc_size, setRow_size] at this); omega
  replace h2 : w5.heap[w.heap.size]? = some (.cells (arrC X) 22 (0, 0)) := (heap_call hC5 h2)
  replace h3 : w5.heap[w.heap.size + 1]? = some (.cells (arrC Y) 22 (0, 0)) := (heap_call hC5 h3)
  replace h5 : w5.heap[w1.heap.size]? = some (.cells (arrC R) 22 (0, 0)) := (heap_call hC5 h5)
  have hBw5 : Hid (Below w.heap.size w w5) := Lib.hid (below_call hBw4.out hC5)
  clear hC5
  go_wp2_with (first
    | ((with_reducible refine at_store 7 ?_); refine wpList_store_row rfl 22 _ _ rfl (w5.heap.size) (arrC I) rfl rfl 22 (zL) (heap_new_at _ _ _ rfl) (info32_of (arrC I) (arrC_size _)) (zL_size.trans (arrC_size _).symm) (arrC_one _) ?_)
    | ((with_reducible refine at_dst 26 ?_); refine load_guarded rfl 22 _ rfl (w5.heap.size) rfl 22 (arrC I) (0, 0) _ (setRow_heap _ _ _ _ _ _ (heap_new_at _ _ _ rfl)) under32 rfl (info32_of (arrC I) (arrC_size _)) ?_))
  refine (FieldSq_to I Q HIQ _).mono ?_
  rintro e w6 ⟨rfl, hC6⟩
  have hs6 : w5.heap.size + 1 ≤ w6.heap.size := by have := hC6.size; (try simp only [alloc_size, setRow_size] at this); omega
  replace h2 : w6.heap[w.heap.size]? = some (.cells (arrC X) 22 (0, 0)) := (heap_call hC6 (heap_row _ (by omega) (heap_old _ h2)))
  replace h3 : w6.heap[w.heap.size + 1]? = some (.cells (arrC Y) 22 (0, 0)) := (heap_call hC6 (heap_row _ (by omega) (heap_old _ h3)))
  replace h5 : w6.heap[w1.heap.size]? = some (.cells (arrC R) 22 (0, 0)) := (heap_call hC6 (heap_row _ (by omega) (heap_old _ h5)))
  replace h7 : w6.heap[w5.heap.size]? = some (.cells (arrC I) 22 (0, 0)) := (heap_call hC6 (setRow_heap _ _ _ _ _ _ (heap_new_at _ _ _ rfl)))
  have hBw6 : Hid (Below w.heap.size w w6) := Lib.hid (below_call (below_setRow (below_alloc hBw5.out _) (by omega) _) hC6)
  clear hC6
  go_wp2_with fail
  refine (number_vv 1 (by omega) _).mono ?_
  rintro e w7 ⟨rfl, hC7⟩
  have hs7 : w6.heap.size ≤ w7.heap.size := by have := hC7.size; (try simp only [alloc_size, setRow_size] at this); omega
  replace h2 : w7.heap[w.heap.size]? = some (.cells (arrC X) 22 (0, 0)) := (heap_call hC7 h2)
  replace h3 : w7.heap[w.heap.size + 1]? = some (.cells (arrC Y) 22 (0, 0)) := (heap_call hC7 h3)
  replace h5 : w7.heap[w1.heap.size]? = some (.cells (arrC R) 22 (0, 0)) := (heap_call hC7 h5)
  replace h7 : w7.heap[w5.heap.size]? = some (.cells (arrC I) 22 (0, 0)) := (heap_call hC7 h7)
  have hBw7 : Hid (Below w.heap.size w w7) := Lib.hid (below_call hBw6.out hC7)
  clear hC7
  go_wp2_with fail
  refine (FieldNeg_any 1 Q B HQ _ (hD0.later hBw7.out)).mono ?_
  rintro e w8 ⟨rfl, hC8⟩
  have hs8 : w7.heap.size ≤ w8.heap.size := by have := hC8.size; (try simp only [alloc_size, setRow_size] at this); omega
  replace h2 : w8.heap[w.heap.size]? = some (.cells (arrC X) 22 (0, 0)) := (heap_call hC8 h2)
  replace h3 : w8.heap[w.heap.size + 1]? = some (.cells (arrC Y) 22 (0, 0)) := (heap_call hC8 h3)
  replace h5 : w8.heap[w1.heap.size]? = some (.cells (arrC R) 22 (0, 0)) := (heap_call hC8 h5)
  replace h7 : w8.heap[w5.heap.size]? = some (.cells (arrC I) 22 (0, 0)) := (heap_call hC8 h7)
  have hBw8 : Hid (Below w.heap.size w w8) := Lib.hid (below_call hBw7.out hC8)
  clear hC8
  go_wp2_with (first
    | ((with_reducible refine at_dst 33 ?_); refine load_guarded rfl 22 _ rfl (w1.heap.size) rfl 22 (arrC R) (0, 0) _ h5 under32 rfl (info32_of (arrC R) (arrC_size _)) ?_))
  refine (FieldIsNeg_any R _ 0 HRn).mono ?_
  rintro e w9 ⟨rfl, hC9⟩
  have hs9 : w8.heap.size ≤ w9.heap.size := by have := hC9.size; (try simp only [alloc_size, setRow_size] at this); omega
  replace h2 : w9.heap[w.heap.size]? = some (.cells (arrC X) 22 (0, 0)) := (heap_call hC9 h2)
  replace h3 : w9.heap[w.heap.size + 1]? = some (.cells (arrC Y) 22 (0, 0)) := (heap_call hC9 h3)
  replace h5 : w9.heap[w1.heap.size]? = some (.cells (arrC R) 22 (0, 0)) := (heap_call hC9 h5)
  replace h7 : w9.heap[w5.heap.size]? = some (.cells (arrC I) 22 (0, 0)) := (heap_call hC9 h7)
  have hBw9 : Hid (Below w.heap.size w w9) := Lib.hid (below_call hBw8.out hC9)
  clear hC9
  go_wp2_with (first
    | ((with_reducible refine at_dst 37 ?_); refine wpList_load_row rfl 22 _ rfl (w.heap.size + 1) rfl 22 (arrC Y) (0, 0) _ h3 under32 rfl (info32_of (arrC Y) (arrC_size _)) ?_))
  refine (isZero_true Y TY HTY hzy _).mono ?_
  rintro e w10 ⟨rfl, hC10⟩
  have hs10 : w9.heap.size ≤ w10.heap.size := by have := hC10.size; (try simp only [alloc_size, setRow_size] at this); omega
  replace h2 : w10.heap[w.heap.size]? = some (.cells (arrC X) 22 (0, 0)) := (heap_call hC10 h2)
  replace h3 : w10.heap[w.heap.size + 1]? = some (.cells (arrC Y) 22 (0, 0)) := (heap_call hC10 h3)
  replace h5 : w10.heap[w1.heap.size]? = some (.cells (arrC R) 22 (0, 0)) := (heap_call hC10 h5)
  replace h7 : w10.heap[w5.heap.size]? = some (.cells (arrC I) 22 (0, 0)) := (heap_call hC10 h7)
  have hBw10 : Hid (Below w.heap.size w w10) := Lib.hid (below_call hBw9.out hC10)
  clear hC10
  go_wp2_with fail
  refine wp_named ?_
  intro w11 ew11
  have hs11 : w10.heap.size ≤ w11.heap.size := by rw [ew11]; (try simp only [alloc_size, setRow_size]); omega
  replace h2 : w11.heap[w.heap.size]? = some (.cells (arrC X) 22 (0, 0)) := by rw [ew11]; exact h2
  replace h3 : w11.heap[w.heap.size + 1]? = some (.cells (arrC Y) 22 (0, 0)) := by rw [ew11]; exact h3
  replace h5 : w11.heap[w1.heap.size]? = some (.cells (arrC R) 22 (0, 0)) := by rw [ew11]; exact h5
  replace h7 : w11.heap[w5.heap.size]? = some (.cells (arrC I) 22 (0, 0)) := by rw [ew11]; exact h7
  have hBw11 : Hid (Below w.heap.size w w11) := Lib.hid (by rw [ew11]; exact hBw10.out)
  clear ew11
  refine wp_region_noPanic ?_
  refine wp_region_held_drew (S := Keep (w11.heap.size) w11) (by kernel_rfl) (Keep.start _ _) ?_
  intro hS
  obtain ⟨w12, ed⟩ : ∃ u : World, u = w11.drew := ⟨_, rfl⟩
  rw [← ed] at hS ⊢
  have xh2 : w12.heap[w.heap.size]? = some (.cells (arrC X) 22 (0, 0)) := by rw [ed]; exact h2
  have xh3 : w12.heap[w.heap.size + 1]? = some (.cells (arrC Y) 22 (0, 0)) := by rw [ed]; exact h3
  have xh5 : w12.heap[w1.heap.size]? = some (.cells (arrC R) 22 (0, 0)) := by rw [ed]; exact h5
  have xh7 : w12.heap[w5.heap.size]? = some (.cells (arrC I) 22 (0, 0)) := by rw [ed]; exact h7
  clear ed
  have hSz := hS.size
  clear xh2
  clear xh3
  clear xh5
  clear xh7
  refine takeAt (i := 0) (v := .agg (arrC R)) rfl (some 39) rfl (by kernel_rfl) (by kernel_rfl) (by kernel_rfl) (fun _ _ _ h => h) (take_row rfl _ _ rfl (w1.heap.size) rfl _ _ _ h5 (Nat.ne_of_lt (heap_lt h5)) under32 rfl (info32_of (arrC R) (arrC_size _))) hS ?_
  simp only [Act.put, List.setIfInBounds_toArray, List.set_cons_zero, List.set_cons_succ]
  refine wpAnyH_ready (rs := [1]) (by kernel_rfl) (by simp) ?_
  refine (AllReadyH.cons rfl ?_ AllReadyH.nil)
  intro K hK
  refine ready_call rfl (some 40) rfl 12 #[] (by go_simp) ?_
  refine (zero_vv _).mono ?_
  rintro e w13 ⟨rfl, hC⟩
  refine ⟨_, rfl, ?_⟩
  simp only [Act.put, List.setIfInBounds_toArray, List.set_cons_zero, List.set_cons_succ]
  have hS := hS.call hC
  have hz13 := hC.size
  clear hC
  refine hK.out _ _ hS ?_
  clear hK K
  intro _
  have hSz := hS.size
  refine takeAt (i := 2) (v := .bool true) rfl (some 41) rfl (by kernel_rfl) (by kernel_rfl) (by kernel_rfl) (fun _ _ _ h => h) (take_run rfl (fun _ _ => by go_simp; rw [run_eq_arr _ _ lR (by omega)]; simp [hR0.out])) hS ?_
  simp only [Act.put, List.setIfInBounds_toArray, List.set_cons_zero, List.set_cons_succ]
  refine takeAt (i := 3) (v := .bool true) rfl (some 4) rfl (by kernel_rfl) (by kernel_rfl) (by kernel_rfl) (fun _ _ _ h => h) (take_run rfl (fun _ _ => by go_simp)) hS ?_
  simp only [Act.put, List.setIfInBounds_toArray, List.set_cons_zero, List.set_cons_succ]
  refine wpAnyH_done (by kernel_rfl) ?_ _
  refine NoPanic.normal ?_
  have hsz := hS.size
  have h2 : w13.heap[w.heap.size]? = some (.cells (arrC X) 22 (0, 0)) := hS.old h2 (Nat.ne_of_lt (heap_lt h2))
  have h3 : w13.heap[w.heap.size + 1]? = some (.cells (arrC Y) 22 (0, 0)) := hS.old h3 (Nat.ne_of_lt (heap_lt h3))
  have h5 : w13.heap[w1.heap.size]? = some (.cells (arrC R) 22 (0, 0)) := hS.old h5 (Nat.ne_of_lt (heap_lt h5))
  have h7 : w13.heap[w5.heap.size]? = some (.cells (arrC I) 22 (0, 0)) := hS.old h7 (Nat.ne_of_lt (heap_lt h7))
  have hBw13 : Hid (Below w.heap.size w w13) := Lib.hid (hBw11.out.trans (hS.below (by omega) hBw11.out.size))
  clear hS
  go_wp2
  go_ret
  exact ⟨rfl, hBw13.out⟩

set_option maxHeartbeats 4000000 in
theorem RtSq_v1 (X Y : Nat) (h : Hid (valN X = 0 ∧ valN Y = 0)) (B : Nat) (w : World) (hD0 : Var 1 z5 B w) (hD1 : Var 0 i5 B w) :
    Calls Tryd.prog 4 #[.agg (arrC X), .agg (arrC Y)] w fun e w' => e = .returned (.bool true) ∧ Below w.heap.size w w' := by
  obtain ⟨R, qR⟩ : ∃ u : Nat, u = sqR (valN X) (valN Y) := ⟨_, rfl⟩
  have HR := Lib.hid qR; clear qR
  obtain ⟨Q, qQ⟩ : ∃ u : Nat, u = (pF - valN 1) % pF := ⟨_, rfl⟩
  have HQ := Lib.hid qQ; clear qQ
  obtain ⟨I, qI⟩ : ∃ u : Nat, u = sqR (valN Q) (valN 1) := ⟨_, rfl⟩
  have HI := Lib.hid qI; clear qI
  obtain ⟨TY, qTY⟩ : ∃ u : Nat, u = valN Y := ⟨_, rfl⟩
  have HTY := Lib.hid qTY; clear qTY
  obtain ⟨A, qA⟩ : ∃ u : Nat, u = valN R * valN R % pF := ⟨_, rfl⟩
  have HA := Lib.hid qA; clear qA
  obtain ⟨L, qL⟩ : ∃ u : Nat, u = valN A * valN Y % pF := ⟨_, rfl⟩
  have HL := Lib.hid qL; clear qL
  have vX := valN_lt X; have vY := valN_lt Y
  have v1 : valN 1 = 1 := valN_of_lt _ (by unfold pF; omega)
  have eQ1 : Q = pF - 1 := by rw [HQ.out, v1, Nat.mod_eq_of_lt (by unfold pF; omega)]
  have vQ : valN Q = pF - 1 := by rw [valN_of_lt _ (by rw [eQ1]; unfold pF; omega)]; exact eQ1
  have eI : I = iN := by rw [HI.out, vQ, v1]; exact m1_way.2
  have vI : valN I = iN := by rw [valN_of_lt _ (by rw [eI]; exact iN_lt)]; exact eI
  have vR : valN R = R := valN_of_lt _ (by rw [HR.out]; exact sqR_lt _ _)
  have vA : valN A = A := valN_of_lt _ (by rw [HA.out]; exact mod_lt_p _)
  have HZI : Hid ((1 : Int) = if sqW (valN Q) (valN 1) then 1 else 0) := Lib.hid (by rw [vQ, v1, m1_way.1]; rfl)
  have HIQ : Hid (Q = valN I * valN I % pF) := Lib.hid (by rw [vI, iN_sq]; exact eQ1)
  have HRn : Hid ((0 : Int) = ((valN R % 2 : Nat) : Int)) := Lib.hid (by rw [vR, HR.out, sqR_even]; rfl)
  have lQ : Q < 256 ^ 32 := by rw [eQ1]; have := p_lt; omega
  have lR : R < 256 ^ 32 := by rw [HR.out]; exact Nat.lt_trans (sqR_lt _ _) p_lt
  have lL : L < 256 ^ 32 := by rw [HL.out]; exact Nat.lt_trans (mod_lt_p _) p_lt
  have e1 : sqW (valN X) (valN Y) = true := by rw [h.out.2, sqW_v0 _ vX]; exact decide_eq_true h.out.1
  have HZ : Hid ((1 : Int) = if sqW (valN X) (valN Y) then 1 else 0) := Lib.hid (by rw [e1]; rfl)
  have hzy : Hid (TY = 0) := Lib.hid (by rw [HTY.out]; exact h.out.2)
  have hR0 : Hid (R = 0) := Lib.hid (by rw [HR.out, h.out.2]; exact sqR_v0 _)
  clear h vX vY vA v1 vQ vI vR eI eQ1 e1
  have e1 := fun u : World => run_eq_arr Q Q lQ lQ u
  rw [show (decide (Q = Q)) = true from by simp] at e1
  have hBl := hD0.1
  go_enter Tryd.func4, Tryd.ntmps4
  go_wp2_with (first
    | ((with_reducible refine at_dst 11 ?_); refine wpList_load_row rfl 22 _ rfl (w.heap.size) rfl 22 (arrC X) (0, 0) _ (heap_old _ (heap_new_at _ _ _ rfl)) under32 rfl (info32_of (arrC X) (arrC_size _)) ?_)
    | ((with_reducible refine at_dst 12 ?_); refine wpList_load_row rfl 22 _ rfl (w.heap.size + 1) rfl 22 (arrC Y) (0, 0) _ (heap_new_at _ _ _ (by simp only [alloc_size, setRow_size])) under32 rfl (info32_of (arrC Y) (arrC_size _)) ?_))
  refine (FieldSqrt_to X Y R 1 HR HZ B _ (hD0.later (below_alloc (below_alloc (Below.refl _ w) _) _)) (hD1.later (below_alloc (below_alloc (Below.refl _ w) _) _))).mono ?_
  rintro e w1 ⟨rfl, hC1⟩
  have hs1 : w.heap.size + 1 + 1 ≤ w1.heap.size := by have := hC1.size; (try simp only [alloc_size, setRow_size] at this); omega
  replace h2 : w1.heap[w.heap.size]? = some (.cells (arrC X) 22 (0, 0)) := (heap_call hC1 (heap_old _ (heap_new_at _ _ _ rfl)))
  replace h3 : w1.heap[w.heap.size + 1]? = some (.cells (arrC Y) 22 (0, 0)) := (heap_call hC1 (heap_new_at _ _ _ (by simp only [alloc_size, setRow_size])))
  have hBw1 : Hid (Below w.heap.size w w1) := Lib.hid (below_call (below_alloc (below_alloc (Below.refl _ w) _) _) hC1)
  clear hC1
  go_wp2_with (first
    | ((with_reducible refine at_store 5 ?_); refine wpList_store_row rfl 22 _ _ rfl (w1.heap.size) (arrC R) rfl rfl 22 (zL) (heap_new_at _ _ _ rfl) (info32_of (arrC R) (arrC_size _)) (zL_size.trans (arrC_size _).symm) (arrC_one _) ?_))
  refine (number_vv 1 (by omega) _).mono ?_
  rintro e w2 ⟨rfl, hC2⟩
  have hs2 : w1.heap.size + 1 ≤ w2.heap.size := by have := hC2.size; (try simp only [alloc_size, setRow_size] at this); omega
  replace h2 : w2.heap[w.heap.size]? = some (.cells (arrC X) 22 (0, 0)) := (heap_call hC2 (heap_row _ (by omega) (heap_old _ h2)))
  replace h3 : w2.heap[w.heap.size + 1]? = some (.cells (arrC Y) 22 (0, 0)) := (heap_call hC2 (heap_row _ (by omega) (heap_old _ h3)))
  replace h5 : w2.heap[w1.heap.size]? = some (.cells (arrC R) 22 (0, 0)) := (heap_call hC2 (setRow_heap _ _ _ _ _ _ (heap_new_at _ _ _ rfl)))
  have hBw2 : Hid (Below w.heap.size w w2) := Lib.hid (below_call (below_setRow (below_alloc hBw1.out _) (by omega) _) hC2)
  clear hC2
  go_wp2_with fail
  refine (FieldNeg_any 1 Q B HQ _ (hD0.later hBw2.out)).mono ?_
  rintro e w3 ⟨rfl, hC3⟩
  have hs3 : w2.heap.size ≤ w3.heap.size := by have := hC3.size; (try simp only [alloc_size, setRow_size] at this); omega
  replace h2 : w3.heap[w.heap.size]? = some (.cells (arrC X) 22 (0, 0)) := (heap_call hC3 h2)
  replace h3 : w3.heap[w.heap.size + 1]? = some (.cells (arrC Y) 22 (0, 0)) := (heap_call hC3 h3)
  replace h5 : w3.heap[w1.heap.size]? = some (.cells (arrC R) 22 (0, 0)) := (heap_call hC3 h5)
  have hBw3 : Hid (Below w.heap.size w w3) := Lib.hid (below_call hBw2.out hC3)
  clear hC3
  go_wp2_with fail
  refine (number_vv 1 (by omega) _).mono ?_
  rintro e w4 ⟨rfl, hC4⟩
  have hs4 : w3.heap.size ≤ w4.heap.size := by have := hC4.size; (try simp only [alloc_size, setRow_size] at this); omega
  replace h2 : w4.heap[w.heap.size]? = some (.cells (arrC X) 22 (0, 0)) := (heap_call hC4 h2)
  replace h3 : w4.heap[w.heap.size + 1]? = some (.cells (arrC Y) 22 (0, 0)) := (heap_call hC4 h3)
  replace h5 : w4.heap[w1.heap.size]? = some (.cells (arrC R) 22 (0, 0)) := (heap_call hC4 h5)
  have hBw4 : Hid (Below w.heap.size w w4) := Lib.hid (below_call hBw3.out hC4)
  clear hC4
  go_wp2_with fail
  refine (FieldSqrt_to Q 1 I 1 HI HZI B _ (hD0.later hBw4.out) (hD1.later hBw4.out)).mono ?_
  rintro e w5 ⟨rfl, hC5⟩
  have hs5 : w4.heap.size ≤ w5.heap.size := by have := hC5.size; (try simp only [alloc_size, setRow_size] at this); omega
  replace h2 : w5.heap[w.heap.size]? = some (.cells (arrC X) 22 (0, 0)) := (heap_call hC5 h2)
  replace h3 : w5.heap[w.heap.size + 1]? = some (.cells (arrC Y) 22 (0, 0)) := (heap_call hC5 h3)
  replace h5 : w5.heap[w1.heap.size]? = some (.cells (arrC R) 22 (0, 0)) := (heap_call hC5 h5)
  have hBw5 : Hid (Below w.heap.size w w5) := Lib.hid (below_call hBw4.out hC5)
  clear hC5
  go_wp2_with (first
    | ((with_reducible refine at_store 7 ?_); refine wpList_store_row rfl 22 _ _ rfl (w5.heap.size) (arrC I) rfl rfl 22 (zL) (heap_new_at _ _ _ rfl) (info32_of (arrC I) (arrC_size _)) (zL_size.trans (arrC_size _).symm) (arrC_one _) ?_)
    | ((with_reducible refine at_dst 26 ?_); refine load_guarded rfl 22 _ rfl (w5.heap.size) rfl 22 (arrC I) (0, 0) _ (setRow_heap _ _ _ _ _ _ (heap_new_at _ _ _ rfl)) under32 rfl (info32_of (arrC I) (arrC_size _)) ?_))
  refine (FieldSq_to I Q HIQ _).mono ?_
  rintro e w6 ⟨rfl, hC6⟩
  have hs6 : w5.heap.size + 1 ≤ w6.heap.size := by have := hC6.size; (try simp only [alloc_size, setRow_size] at this); omega
  replace h2 : w6.heap[w.heap.size]? = some (.cells (arrC X) 22 (0, 0)) := (heap_call hC6 (heap_row _ (by omega) (heap_old _ h2)))
  replace h3 : w6.heap[w.heap.size + 1]? = some (.cells (arrC Y) 22 (0, 0)) := (heap_call hC6 (heap_row _ (by omega) (heap_old _ h3)))
  replace h5 : w6.heap[w1.heap.size]? = some (.cells (arrC R) 22 (0, 0)) := (heap_call hC6 (heap_row _ (by omega) (heap_old _ h5)))
  replace h7 : w6.heap[w5.heap.size]? = some (.cells (arrC I) 22 (0, 0)) := (heap_call hC6 (setRow_heap _ _ _ _ _ _ (heap_new_at _ _ _ rfl)))
  have hBw6 : Hid (Below w.heap.size w w6) := Lib.hid (below_call (below_setRow (below_alloc hBw5.out _) (by omega) _) hC6)
  clear hC6
  go_wp2_with fail
  refine (number_vv 1 (by omega) _).mono ?_
  rintro e w7 ⟨rfl, hC7⟩
  have hs7 : w6.heap.size ≤ w7.heap.size := by have := hC7.size; (try simp only [alloc_size, setRow_size] at this); omega
  replace h2 : w7.heap[w.heap.size]? = some (.cells (arrC X) 22 (0, 0)) := (heap_call hC7 h2)
  replace h3 : w7.heap[w.heap.size + 1]? = some (.cells (arrC Y) 22 (0, 0)) := (heap_call hC7 h3)
  replace h5 : w7.heap[w1.heap.size]? = some (.cells (arrC R) 22 (0, 0)) := (heap_call hC7 h5)
  replace h7 : w7.heap[w5.heap.size]? = some (.cells (arrC I) 22 (0, 0)) := (heap_call hC7 h7)
  have hBw7 : Hid (Below w.heap.size w w7) := Lib.hid (below_call hBw6.out hC7)
  clear hC7
  go_wp2_with fail
  refine (FieldNeg_any 1 Q B HQ _ (hD0.later hBw7.out)).mono ?_
  rintro e w8 ⟨rfl, hC8⟩
  have hs8 : w7.heap.size ≤ w8.heap.size := by have := hC8.size; (try simp only [alloc_size, setRow_size] at this); omega
  replace h2 : w8.heap[w.heap.size]? = some (.cells (arrC X) 22 (0, 0)) := (heap_call hC8 h2)
  replace h3 : w8.heap[w.heap.size + 1]? = some (.cells (arrC Y) 22 (0, 0)) := (heap_call hC8 h3)
  replace h5 : w8.heap[w1.heap.size]? = some (.cells (arrC R) 22 (0, 0)) := (heap_call hC8 h5)
  replace h7 : w8.heap[w5.heap.size]? = some (.cells (arrC I) 22 (0, 0)) := (heap_call hC8 h7)
  have hBw8 : Hid (Below w.heap.size w w8) := Lib.hid (below_call hBw7.out hC8)
  clear hC8
  go_wp2_with (first
    | ((with_reducible refine at_dst 33 ?_); refine load_guarded rfl 22 _ rfl (w1.heap.size) rfl 22 (arrC R) (0, 0) _ h5 under32 rfl (info32_of (arrC R) (arrC_size _)) ?_))
  refine (FieldIsNeg_any R _ 0 HRn).mono ?_
  rintro e w9 ⟨rfl, hC9⟩
  have hs9 : w8.heap.size ≤ w9.heap.size := by have := hC9.size; (try simp only [alloc_size, setRow_size] at this); omega
  replace h2 : w9.heap[w.heap.size]? = some (.cells (arrC X) 22 (0, 0)) := (heap_call hC9 h2)
  replace h3 : w9.heap[w.heap.size + 1]? = some (.cells (arrC Y) 22 (0, 0)) := (heap_call hC9 h3)
  replace h5 : w9.heap[w1.heap.size]? = some (.cells (arrC R) 22 (0, 0)) := (heap_call hC9 h5)
  replace h7 : w9.heap[w5.heap.size]? = some (.cells (arrC I) 22 (0, 0)) := (heap_call hC9 h7)
  have hBw9 : Hid (Below w.heap.size w w9) := Lib.hid (below_call hBw8.out hC9)
  clear hC9
  go_wp2_with (first
    | ((with_reducible refine at_dst 37 ?_); refine wpList_load_row rfl 22 _ rfl (w.heap.size + 1) rfl 22 (arrC Y) (0, 0) _ h3 under32 rfl (info32_of (arrC Y) (arrC_size _)) ?_))
  refine (isZero_true Y TY HTY hzy _).mono ?_
  rintro e w10 ⟨rfl, hC10⟩
  have hs10 : w9.heap.size ≤ w10.heap.size := by have := hC10.size; (try simp only [alloc_size, setRow_size] at this); omega
  replace h2 : w10.heap[w.heap.size]? = some (.cells (arrC X) 22 (0, 0)) := (heap_call hC10 h2)
  replace h3 : w10.heap[w.heap.size + 1]? = some (.cells (arrC Y) 22 (0, 0)) := (heap_call hC10 h3)
  replace h5 : w10.heap[w1.heap.size]? = some (.cells (arrC R) 22 (0, 0)) := (heap_call hC10 h5)
  replace h7 : w10.heap[w5.heap.size]? = some (.cells (arrC I) 22 (0, 0)) := (heap_call hC10 h7)
  have hBw10 : Hid (Below w.heap.size w w10) := Lib.hid (below_call hBw9.out hC10)
  clear hC10
  go_wp2_with fail
  refine wp_named ?_
  intro w11 ew11
  have hs11 : w10.heap.size ≤ w11.heap.size := by rw [ew11]; (try simp only [alloc_size, setRow_size]); omega
  replace h2 : w11.heap[w.heap.size]? = some (.cells (arrC X) 22 (0, 0)) := by rw [ew11]; exact h2
  replace h3 : w11.heap[w.heap.size + 1]? = some (.cells (arrC Y) 22 (0, 0)) := by rw [ew11]; exact h3
  replace h5 : w11.heap[w1.heap.size]? = some (.cells (arrC R) 22 (0, 0)) := by rw [ew11]; exact h5
  replace h7 : w11.heap[w5.heap.size]? = some (.cells (arrC I) 22 (0, 0)) := by rw [ew11]; exact h7
  have hBw11 : Hid (Below w.heap.size w w11) := Lib.hid (by rw [ew11]; exact hBw10.out)
  clear ew11
  refine wp_region_noPanic ?_
  refine wp_region_held_drew (S := Keep (w11.heap.size) w11) (by kernel_rfl) (Keep.start _ _) ?_
  intro hS
  obtain ⟨w12, ed⟩ : ∃ u : World, u = w11.drew := ⟨_, rfl⟩
  rw [← ed] at hS ⊢
  have xh2 : w12.heap[w.heap.size]? = some (.cells (arrC X) 22 (0, 0)) := by rw [ed]; exact h2
  have xh3 : w12.heap[w.heap.size + 1]? = some (.cells (arrC Y) 22 (0, 0)) := by rw [ed]; exact h3
  have xh5 : w12.heap[w1.heap.size]? = some (.cells (arrC R) 22 (0, 0)) := by rw [ed]; exact h5
  have xh7 : w12.heap[w5.heap.size]? = some (.cells (arrC I) 22 (0, 0)) := by rw [ed]; exact h7
  clear ed
  have hSz := hS.size
  clear xh2
  clear xh3
  clear xh5
  clear xh7
  refine takeAt (i := 0) (v := .agg (arrC R)) rfl (some 39) rfl (by kernel_rfl) (by kernel_rfl) (by kernel_rfl) (fun _ _ _ h => h) (take_row rfl _ _ rfl (w1.heap.size) rfl _ _ _ h5 (Nat.ne_of_lt (heap_lt h5)) under32 rfl (info32_of (arrC R) (arrC_size _))) hS ?_
  simp only [Act.put, List.setIfInBounds_toArray, List.set_cons_zero, List.set_cons_succ]
  refine wpAnyH_ready (rs := [1]) (by kernel_rfl) (by simp) ?_
  refine (AllReadyH.cons rfl ?_ AllReadyH.nil)
  intro K hK
  refine ready_call rfl (some 40) rfl 12 #[] (by go_simp) ?_
  refine (zero_vv _).mono ?_
  rintro e w13 ⟨rfl, hC⟩
  refine ⟨_, rfl, ?_⟩
  simp only [Act.put, List.setIfInBounds_toArray, List.set_cons_zero, List.set_cons_succ]
  have hS := hS.call hC
  have hz13 := hC.size
  clear hC
  refine hK.out _ _ hS ?_
  clear hK K
  intro _
  have hSz := hS.size
  refine takeAt (i := 2) (v := .bool true) rfl (some 41) rfl (by kernel_rfl) (by kernel_rfl) (by kernel_rfl) (fun _ _ _ h => h) (take_run rfl (fun _ _ => by go_simp; rw [run_eq_arr _ _ lR (by omega)]; simp [hR0.out])) hS ?_
  simp only [Act.put, List.setIfInBounds_toArray, List.set_cons_zero, List.set_cons_succ]
  refine takeAt (i := 3) (v := .bool true) rfl (some 4) rfl (by kernel_rfl) (by kernel_rfl) (by kernel_rfl) (fun _ _ _ h => h) (take_run rfl (fun _ _ => by go_simp)) hS ?_
  simp only [Act.put, List.setIfInBounds_toArray, List.set_cons_zero, List.set_cons_succ]
  refine wpAnyH_done (by kernel_rfl) ?_ _
  refine NoPanic.normal ?_
  have hsz := hS.size
  have h2 : w13.heap[w.heap.size]? = some (.cells (arrC X) 22 (0, 0)) := hS.old h2 (Nat.ne_of_lt (heap_lt h2))
  have h3 : w13.heap[w.heap.size + 1]? = some (.cells (arrC Y) 22 (0, 0)) := hS.old h3 (Nat.ne_of_lt (heap_lt h3))
  have h5 : w13.heap[w1.heap.size]? = some (.cells (arrC R) 22 (0, 0)) := hS.old h5 (Nat.ne_of_lt (heap_lt h5))
  have h7 : w13.heap[w5.heap.size]? = some (.cells (arrC I) 22 (0, 0)) := hS.old h7 (Nat.ne_of_lt (heap_lt h7))
  have hBw13 : Hid (Below w.heap.size w w13) := Lib.hid (hBw11.out.trans (hS.below (by omega) hBw11.out.size))
  clear hS
  go_wp2
  go_ret
  exact ⟨rfl, hBw13.out⟩

set_option maxHeartbeats 4000000 in
theorem RtSq_yes (X Y : Nat) (h : Hid (sqW (valN X) (valN Y) = true ∧ ¬ valN Y = 0)) (B : Nat) (w : World) (hD0 : Var 1 z5 B w) (hD1 : Var 0 i5 B w) :
    Calls Tryd.prog 4 #[.agg (arrC X), .agg (arrC Y)] w fun e w' => e = .returned (.bool true) ∧ Below w.heap.size w w' := by
  obtain ⟨R, qR⟩ : ∃ u : Nat, u = sqR (valN X) (valN Y) := ⟨_, rfl⟩
  have HR := Lib.hid qR; clear qR
  obtain ⟨Q, qQ⟩ : ∃ u : Nat, u = (pF - valN 1) % pF := ⟨_, rfl⟩
  have HQ := Lib.hid qQ; clear qQ
  obtain ⟨I, qI⟩ : ∃ u : Nat, u = sqR (valN Q) (valN 1) := ⟨_, rfl⟩
  have HI := Lib.hid qI; clear qI
  obtain ⟨TY, qTY⟩ : ∃ u : Nat, u = valN Y := ⟨_, rfl⟩
  have HTY := Lib.hid qTY; clear qTY
  obtain ⟨A, qA⟩ : ∃ u : Nat, u = valN R * valN R % pF := ⟨_, rfl⟩
  have HA := Lib.hid qA; clear qA
  obtain ⟨L, qL⟩ : ∃ u : Nat, u = valN A * valN Y % pF := ⟨_, rfl⟩
  have HL := Lib.hid qL; clear qL
  have vX := valN_lt X; have vY := valN_lt Y
  have v1 : valN 1 = 1 := valN_of_lt _ (by unfold pF; omega)
  have eQ1 : Q = pF - 1 := by rw [HQ.out, v1, Nat.mod_eq_of_lt (by unfold pF; omega)]
  have vQ : valN Q = pF - 1 := by rw [valN_of_lt _ (by rw [eQ1]; unfold pF; omega)]; exact eQ1
  have eI : I = iN := by rw [HI.out, vQ, v1]; exact m1_way.2
  have vI : valN I = iN := by rw [valN_of_lt _ (by rw [eI]; exact iN_lt)]; exact eI
  have vR : valN R = R := valN_of_lt _ (by rw [HR.out]; exact sqR_lt _ _)
  have vA : valN A = A := valN_of_lt _ (by rw [HA.out]; exact mod_lt_p _)
  have HZI : Hid ((1 : Int) = if sqW (valN Q) (valN 1) then 1 else 0) := Lib.hid (by rw [vQ, v1, m1_way.1]; rfl)
  have HIQ : Hid (Q = valN I * valN I % pF) := Lib.hid (by rw [vI, iN_sq]; exact eQ1)
  have HRn : Hid ((0 : Int) = ((valN R % 2 : Nat) : Int)) := Lib.hid (by rw [vR, HR.out, sqR_even]; rfl)
  have lQ : Q < 256 ^ 32 := by rw [eQ1]; have := p_lt; omega
  have lR : R < 256 ^ 32 := by rw [HR.out]; exact Nat.lt_trans (sqR_lt _ _) p_lt
  have lL : L < 256 ^ 32 := by rw [HL.out]; exact Nat.lt_trans (mod_lt_p _) p_lt
  have e1 : sqW (valN X) (valN Y) = true := by exact h.out.1
  have HZ : Hid ((1 : Int) = if sqW (valN X) (valN Y) then 1 else 0) := Lib.hid (by rw [e1]; rfl)
  have hzy : Hid (¬ TY = 0) := Lib.hid (by rw [HTY.out]; exact h.out.2)
  have HXL : Hid (L = valN X) := Lib.hid (by rw [HL.out, vA, HA.out, vR, HR.out]; exact root_yes _ _ vX vY h.out.2 e1)
  clear h vX vY vA v1 vQ vI vR eI eQ1 e1
  have e1 := fun u : World => run_eq_arr Q Q lQ lQ u
  rw [show (decide (Q = Q)) = true from by simp] at e1
  have hBl := hD0.1
  go_enter Tryd.func4, Tryd.ntmps4
  go_wp2_with (first
    | ((with_reducible refine at_dst 11 ?_); refine wpList_load_row rfl 22 _ rfl (w.heap.size) rfl 22 (arrC X) (0, 0) _ (heap_old _ (heap_new_at _ _ _ rfl)) under32 rfl (info32_of (arrC X) (arrC_size _)) ?_)
    | ((with_reducible refine at_dst 12 ?_); refine wpList_load_row rfl 22 _ rfl (w.heap.size + 1) rfl 22 (arrC Y) (0, 0) _ (heap_new_at _ _ _ (by simp only [alloc_size, setRow_size])) under32 rfl (info32_of (arrC Y) (arrC_size _)) ?_))
  refine (FieldSqrt_to X Y R 1 HR HZ B _ (hD0.later (below_alloc (below_alloc (Below.refl _ w) _) _)) (hD1.later (below_alloc (below_alloc (Below.refl _ w) _) _))).mono ?_
  rintro e w1 ⟨rfl, hC1⟩
  have hs1 : w.heap.size + 1 + 1 ≤ w1.heap.size := by have := hC1.size; (try simp only [alloc_size, setRow_size] at this); omega
  replace h2 : w1.heap[w.heap.size]? = some (.cells (arrC X) 22 (0, 0)) := (heap_call hC1 (heap_old _ (heap_new_at _ _ _ rfl)))
  replace h3 : w1.heap[w.heap.size + 1]? = some (.cells (arrC Y) 22 (0, 0)) := (heap_call hC1 (heap_new_at _ _ _ (by simp only [alloc_size, setRow_size])))
  have hBw1 : Hid (Below w.heap.size w w1) := Lib.hid (below_call (below_alloc (below_alloc (Below.refl _ w) _) _) hC1)
  clear hC1
  go_wp2_with (first
    | ((with_reducible refine at_store 5 ?_); refine wpList_store_row rfl 22 _ _ rfl (w1.heap.size) (arrC R) rfl rfl 22 (zL) (heap_new_at _ _ _ rfl) (info32_of (arrC R) (arrC_size _)) (zL_size.trans (arrC_size _).symm) (arrC_one _) ?_))
  refine (number_vv 1 (by omega) _).mono ?_
  rintro e w2 ⟨rfl, hC2⟩
  have hs2 : w1.heap.size + 1 ≤ w2.heap.size := by have := hC2.size; (try simp only [alloc_size, setRow_size] at this); omega
  replace h2 : w2.heap[w.heap.size]? = some (.cells (arrC X) 22 (0, 0)) := (heap_call hC2 (heap_row _ (by omega) (heap_old _ h2)))
  replace h3 : w2.heap[w.heap.size + 1]? = some (.cells (arrC Y) 22 (0, 0)) := (heap_call hC2 (heap_row _ (by omega) (heap_old _ h3)))
  replace h5 : w2.heap[w1.heap.size]? = some (.cells (arrC R) 22 (0, 0)) := (heap_call hC2 (setRow_heap _ _ _ _ _ _ (heap_new_at _ _ _ rfl)))
  have hBw2 : Hid (Below w.heap.size w w2) := Lib.hid (below_call (below_setRow (below_alloc hBw1.out _) (by omega) _) hC2)
  clear hC2
  go_wp2_with fail
  refine (FieldNeg_any 1 Q B HQ _ (hD0.later hBw2.out)).mono ?_
  rintro e w3 ⟨rfl, hC3⟩
  have hs3 : w2.heap.size ≤ w3.heap.size := by have := hC3.size; (try simp only [alloc_size, setRow_size] at this); omega
  replace h2 : w3.heap[w.heap.size]? = some (.cells (arrC X) 22 (0, 0)) := (heap_call hC3 h2)
  replace h3 : w3.heap[w.heap.size + 1]? = some (.cells (arrC Y) 22 (0, 0)) := (heap_call hC3 h3)
  replace h5 : w3.heap[w1.heap.size]? = some (.cells (arrC R) 22 (0, 0)) := (heap_call hC3 h5)
  have hBw3 : Hid (Below w.heap.size w w3) := Lib.hid (below_call hBw2.out hC3)
  clear hC3
  go_wp2_with fail
  refine (number_vv 1 (by omega) _).mono ?_
  rintro e w4 ⟨rfl, hC4⟩
  have hs4 : w3.heap.size ≤ w4.heap.size := by have := hC4.size; (try simp only [alloc_size, setRow_size] at this); omega
  replace h2 : w4.heap[w.heap.size]? = some (.cells (arrC X) 22 (0, 0)) := (heap_call hC4 h2)
  replace h3 : w4.heap[w.heap.size + 1]? = some (.cells (arrC Y) 22 (0, 0)) := (heap_call hC4 h3)
  replace h5 : w4.heap[w1.heap.size]? = some (.cells (arrC R) 22 (0, 0)) := (heap_call hC4 h5)
  have hBw4 : Hid (Below w.heap.size w w4) := Lib.hid (below_call hBw3.out hC4)
  clear hC4
  go_wp2_with fail
  refine (FieldSqrt_to Q 1 I 1 HI HZI B _ (hD0.later hBw4.out) (hD1.later hBw4.out)).mono ?_
  rintro e w5 ⟨rfl, hC5⟩
  have hs5 : w4.heap.size ≤ w5.heap.size := by have := hC5.size; (try simp only [alloc_size, setRow_size] at this); omega
  replace h2 : w5.heap[w.heap.size]? = some (.cells (arrC X) 22 (0, 0)) := (heap_call hC5 h2)
  replace h3 : w5.heap[w.heap.size + 1]? = some (.cells (arrC Y) 22 (0, 0)) := (heap_call hC5 h3)
  replace h5 : w5.heap[w1.heap.size]? = some (.cells (arrC R) 22 (0, 0)) := (heap_call hC5 h5)
  have hBw5 : Hid (Below w.heap.size w w5) := Lib.hid (below_call hBw4.out hC5)
  clear hC5
  go_wp2_with (first
    | ((with_reducible refine at_store 7 ?_); refine wpList_store_row rfl 22 _ _ rfl (w5.heap.size) (arrC I) rfl rfl 22 (zL) (heap_new_at _ _ _ rfl) (info32_of (arrC I) (arrC_size _)) (zL_size.trans (arrC_size _).symm) (arrC_one _) ?_)
    | ((with_reducible refine at_dst 26 ?_); refine load_guarded rfl 22 _ rfl (w5.heap.size) rfl 22 (arrC I) (0, 0) _ (setRow_heap _ _ _ _ _ _ (heap_new_at _ _ _ rfl)) under32 rfl (info32_of (arrC I) (arrC_size _)) ?_))
  refine (FieldSq_to I Q HIQ _).mono ?_
  rintro e w6 ⟨rfl, hC6⟩
  have hs6 : w5.heap.size + 1 ≤ w6.heap.size := by have := hC6.size; (try simp only [alloc_size, setRow_size] at this); omega
  replace h2 : w6.heap[w.heap.size]? = some (.cells (arrC X) 22 (0, 0)) := (heap_call hC6 (heap_row _ (by omega) (heap_old _ h2)))
  replace h3 : w6.heap[w.heap.size + 1]? = some (.cells (arrC Y) 22 (0, 0)) := (heap_call hC6 (heap_row _ (by omega) (heap_old _ h3)))
  replace h5 : w6.heap[w1.heap.size]? = some (.cells (arrC R) 22 (0, 0)) := (heap_call hC6 (heap_row _ (by omega) (heap_old _ h5)))
  replace h7 : w6.heap[w5.heap.size]? = some (.cells (arrC I) 22 (0, 0)) := (heap_call hC6 (setRow_heap _ _ _ _ _ _ (heap_new_at _ _ _ rfl)))
  have hBw6 : Hid (Below w.heap.size w w6) := Lib.hid (below_call (below_setRow (below_alloc hBw5.out _) (by omega) _) hC6)
  clear hC6
  go_wp2_with fail
  refine (number_vv 1 (by omega) _).mono ?_
  rintro e w7 ⟨rfl, hC7⟩
  have hs7 : w6.heap.size ≤ w7.heap.size := by have := hC7.size; (try simp only [alloc_size, setRow_size] at this); omega
  replace h2 : w7.heap[w.heap.size]? = some (.cells (arrC X) 22 (0, 0)) := (heap_call hC7 h2)
  replace h3 : w7.heap[w.heap.size + 1]? = some (.cells (arrC Y) 22 (0, 0)) := (heap_call hC7 h3)
  replace h5 : w7.heap[w1.heap.size]? = some (.cells (arrC R) 22 (0, 0)) := (heap_call hC7 h5)
  replace h7 : w7.heap[w5.heap.size]? = some (.cells (arrC I) 22 (0, 0)) := (heap_call hC7 h7)
  have hBw7 : Hid (Below w.heap.size w w7) := Lib.hid (below_call hBw6.out hC7)
  clear hC7
  go_wp2_with fail
  refine (FieldNeg_any 1 Q B HQ _ (hD0.later hBw7.out)).mono ?_
  rintro e w8 ⟨rfl, hC8⟩
  have hs8 : w7.heap.size ≤ w8.heap.size := by have := hC8.size; (try simp only [alloc_size, setRow_size] at this); omega
  replace h2 : w8.heap[w.heap.size]? = some (.cells (arrC X) 22 (0, 0)) := (heap_call hC8 h2)
  replace h3 : w8.heap[w.heap.size + 1]? = some (.cells (arrC Y) 22 (0, 0)) := (heap_call hC8 h3)
  replace h5 : w8.heap[w1.heap.size]? = some (.cells (arrC R) 22 (0, 0)) := (heap_call hC8 h5)
  replace h7 : w8.heap[w5.heap.size]? = some (.cells (arrC I) 22 (0, 0)) := (heap_call hC8 h7)
  have hBw8 : Hid (Below w.heap.size w w8) := Lib.hid (below_call hBw7.out hC8)
  clear hC8
  go_wp2_with (first
    | ((with_reducible refine at_dst 33 ?_); refine load_guarded rfl 22 _ rfl (w1.heap.size) rfl 22 (arrC R) (0, 0) _ h5 under32 rfl (info32_of (arrC R) (arrC_size _)) ?_))
  refine (FieldIsNeg_any R _ 0 HRn).mono ?_
  rintro e w9 ⟨rfl, hC9⟩
  have hs9 : w8.heap.size ≤ w9.heap.size := by have := hC9.size; (try simp only [alloc_size, setRow_size] at this); omega
  replace h2 : w9.heap[w.heap.size]? = some (.cells (arrC X) 22 (0, 0)) := (heap_call hC9 h2)
  replace h3 : w9.heap[w.heap.size + 1]? = some (.cells (arrC Y) 22 (0, 0)) := (heap_call hC9 h3)
  replace h5 : w9.heap[w1.heap.size]? = some (.cells (arrC R) 22 (0, 0)) := (heap_call hC9 h5)
  replace h7 : w9.heap[w5.heap.size]? = some (.cells (arrC I) 22 (0, 0)) := (heap_call hC9 h7)
  have hBw9 : Hid (Below w.heap.size w w9) := Lib.hid (below_call hBw8.out hC9)
  clear hC9
  go_wp2_with (first
    | ((with_reducible refine at_dst 37 ?_); refine wpList_load_row rfl 22 _ rfl (w.heap.size + 1) rfl 22 (arrC Y) (0, 0) _ h3 under32 rfl (info32_of (arrC Y) (arrC_size _)) ?_))
  refine (isZero_false Y TY HTY hzy _).mono ?_
  rintro e w10 ⟨rfl, hC10⟩
  have hs10 : w9.heap.size ≤ w10.heap.size := by have := hC10.size; (try simp only [alloc_size, setRow_size] at this); omega
  replace h2 : w10.heap[w.heap.size]? = some (.cells (arrC X) 22 (0, 0)) := (heap_call hC10 h2)
  replace h3 : w10.heap[w.heap.size + 1]? = some (.cells (arrC Y) 22 (0, 0)) := (heap_call hC10 h3)
  replace h5 : w10.heap[w1.heap.size]? = some (.cells (arrC R) 22 (0, 0)) := (heap_call hC10 h5)
  replace h7 : w10.heap[w5.heap.size]? = some (.cells (arrC I) 22 (0, 0)) := (heap_call hC10 h7)
  have hBw10 : Hid (Below w.heap.size w w10) := Lib.hid (below_call hBw9.out hC10)
  clear hC10
  go_wp2_with fail
  refine wp_named ?_
  intro w11 ew11
  have hs11 : w10.heap.size ≤ w11.heap.size := by rw [ew11]; (try simp only [alloc_size, setRow_size]); omega
  replace h2 : w11.heap[w.heap.size]? = some (.cells (arrC X) 22 (0, 0)) := by rw [ew11]; exact h2
  replace h3 : w11.heap[w.heap.size + 1]? = some (.cells (arrC Y) 22 (0, 0)) := by rw [ew11]; exact h3
  replace h5 : w11.heap[w1.heap.size]? = some (.cells (arrC R) 22 (0, 0)) := by rw [ew11]; exact h5
  replace h7 : w11.heap[w5.heap.size]? = some (.cells (arrC I) 22 (0, 0)) := by rw [ew11]; exact h7
  have hBw11 : Hid (Below w.heap.size w w11) := Lib.hid (by rw [ew11]; exact hBw10.out)
  clear ew11
  go_cut [9] (fun s9 wx => ∃ g9 : Nat, s9 = .pointer (some ⟨g9, 0, none⟩) ∧ Hid (w11.heap.size ≤ g9) ∧ Hid (wx.heap[g9]? = some (.cells (arrC L) 22 (0, 0))) ∧ Hid (wx.heap[w.heap.size]? = some (.cells (arrC X) 22 (0, 0))) ∧ Hid (wx.heap[w.heap.size + 1]? = some (.cells (arrC Y) 22 (0, 0))) ∧ Hid (wx.heap[w1.heap.size]? = some (.cells (arrC R) 22 (0, 0))) ∧ Hid (wx.heap[w5.heap.size]? = some (.cells (arrC I) 22 (0, 0))) ∧ Hid (Below w.heap.size w wx) ∧ Hid (w11.heap.size ≤ wx.heap.size))
  case first =>
    refine wp_region_noPanic ?_
    refine wp_region_held_drew (S := Keep (w11.heap.size) w11) (by kernel_rfl) (Keep.start _ _) ?_
    intro hS
    obtain ⟨w12, ed⟩ : ∃ u : World, u = w11.drew := ⟨_, rfl⟩
    rw [← ed] at hS ⊢
    have xh2 : w12.heap[w.heap.size]? = some (.cells (arrC X) 22 (0, 0)) := by rw [ed]; exact h2
    have xh3 : w12.heap[w.heap.size + 1]? = some (.cells (arrC Y) 22 (0, 0)) := by rw [ed]; exact h3
    have xh5 : w12.heap[w1.heap.size]? = some (.cells (arrC R) 22 (0, 0)) := by rw [ed]; exact h5
    have xh7 : w12.heap[w5.heap.size]? = some (.cells (arrC I) 22 (0, 0)) := by rw [ed]; exact h7
    clear ed
    have hSz := hS.size
    clear xh2
    clear xh3
    clear xh5
    clear xh7
    refine takeAt (i := 0) (v := .agg (arrC R)) rfl (some 42) rfl (by kernel_rfl) (by kernel_rfl) (by kernel_rfl) (fun _ _ _ h => h) (take_row rfl _ _ rfl (w1.heap.size) rfl _ _ _ h5 (Nat.ne_of_lt (heap_lt h5)) under32 rfl (info32_of (arrC R) (arrC_size _))) hS ?_
    simp only [Act.put, List.setIfInBounds_toArray, List.set_cons_zero, List.set_cons_succ]
    refine takeAt (i := 2) (v := .agg (arrC Y)) rfl (some 44) rfl (by kernel_rfl) (by kernel_rfl) (by kernel_rfl) (fun _ _ _ h => h) (take_row rfl _ _ rfl (w.heap.size + 1) rfl _ _ _ h3 (Nat.ne_of_lt (heap_lt h3)) under32 rfl (info32_of (arrC Y) (arrC_size _))) hS ?_
    simp only [Act.put, List.setIfInBounds_toArray, List.set_cons_zero, List.set_cons_succ]
    refine wpAnyH_ready (rs := [1, 4]) (by kernel_rfl) (by simp) ?_
    refine (AllReadyH.cons rfl ?_ (AllReadyH.cons rfl ?_ AllReadyH.nil))
    · intro K hK
      refine ready_call rfl (some 43) rfl 10 #[.agg (arrC R)] (by go_simp) ?_
      refine (FieldSq_to R A HA _).mono ?_
      rintro e w13 ⟨rfl, hC⟩
      refine ⟨_, rfl, ?_⟩
      simp only [Act.put, List.setIfInBounds_toArray, List.set_cons_zero, List.set_cons_succ]
      have hS := hS.call hC
      have hz13 := hC.size
      clear hC
      refine hK.out _ _ hS ?_
      clear hK K
      intro _
      have hSz := hS.size
      refine wpAnyH_ready (rs := [3, 4]) (by kernel_rfl) (by simp) ?_
      refine (AllReadyH.cons rfl ?_ (AllReadyH.cons rfl ?_ AllReadyH.nil))
      · intro K hK
        refine ready_call rfl (some 45) rfl 13 #[.agg (arrC A), .agg (arrC Y)] (by go_simp) ?_
        refine (FieldMul_to A Y L HL _).mono ?_
        rintro e w14 ⟨rfl, hC⟩
        refine ⟨_, rfl, ?_⟩
        simp only [Act.put, List.setIfInBounds_toArray, List.set_cons_zero, List.set_cons_succ]
        have hS := hS.call hC
        have hz14 := hC.size
        clear hC
        refine hK.out _ _ hS ?_
        clear hK K
        intro _
        have hSz := hS.size
        refine wpAnyH_ready (rs := [4]) (by kernel_rfl) (by simp) ?_
        refine (AllReadyH.cons rfl ?_ AllReadyH.nil)
        intro K hK
        refine ready_run rfl (some 9) rfl (.pointer (some ⟨w14.heap.size, 0, none⟩)) (w14.alloc (.cells zL 22)) (by go_simp; try rfl) ?_
        simp only [Act.put, List.setIfInBounds_toArray, List.set_cons_zero, List.set_cons_succ]
        obtain ⟨w15, ea⟩ : ∃ u : World, u = w14.alloc (.cells zL 22) := ⟨_, rfl⟩
        rw [← ea]
        have hS := hS.alloc (.cells zL 22)
        rw [← ea] at hS
        have hz15 : w14.heap.size + 1 ≤ w15.heap.size := by rw [ea, alloc_size]; omega
        have hy15 : w11.heap.size ≤ w14.heap.size := hSz
        have xh9 : w15.heap[w14.heap.size]? = some (.cells (zL) 22 (0, 0)) := by rw [ea]; exact heap_new_at _ _ _ rfl
        clear ea
        refine hK.out _ _ hS ?_
        clear hK K
        intro _
        have hSz := hS.size
        refine wpAnyH_ready (rs := [5]) (by kernel_rfl) (by simp) ?_
        refine (AllReadyH.cons rfl ?_ AllReadyH.nil)
        intro K hK
        rw [if_pos (by rfl)]
        refine wp_store_row 22 _ _ rfl (w14.heap.size) (arrC L) rfl rfl 22 (zL) xh9 (info32_of (arrC L) (arrC_size _)) (zL_size.trans (arrC_size _).symm) (arrC_one _) ?_
        refine put_at (none) rfl ?_
        simp only [Act.put, List.setIfInBounds_toArray, List.set_cons_zero, List.set_cons_succ]
        have xh9 : (w15.setRow (w14.heap.size) (arrC L)).heap[w14.heap.size]? = some (.cells (arrC L) 22 (0, 0)) := (setRow_heap _ _ _ _ _ _ xh9)
        have hS := hS.storeNew (arrC L) (show w11.heap.size ≤ w14.heap.size by omega)
        generalize w15.setRow (w14.heap.size) (arrC L) = w16 at *
        refine hK.out _ _ hS ?_
        clear hK K
        intro _
        have hSz := hS.size
        refine wpAnyH_done (by kernel_rfl) ?_ _
        refine NoPanic.normal ?_
        have hsz := hS.size
        have h2 : w16.heap[w.heap.size]? = some (.cells (arrC X) 22 (0, 0)) := hS.old h2 (Nat.ne_of_lt (heap_lt h2))
        have h3 : w16.heap[w.heap.size + 1]? = some (.cells (arrC Y) 22 (0, 0)) := hS.old h3 (Nat.ne_of_lt (heap_lt h3))
        have h5 : w16.heap[w1.heap.size]? = some (.cells (arrC R) 22 (0, 0)) := hS.old h5 (Nat.ne_of_lt (heap_lt h5))
        have h7 : w16.heap[w5.heap.size]? = some (.cells (arrC I) 22 (0, 0)) := hS.old h7 (Nat.ne_of_lt (heap_lt h7))
        have h9 := xh9
        have hBw16 : Hid (Below w.heap.size w w16) := Lib.hid (hBw11.out.trans (hS.below (by omega) hBw11.out.size))
        clear hS
        go_wp2_with fail
        go_meet
        exact ⟨w14.heap.size, rfl, Lib.hid (show w11.heap.size ≤ w14.heap.size by omega), Lib.hid h9, Lib.hid h2, Lib.hid h3, Lib.hid h5, Lib.hid h7, Lib.hid hBw16.out, Lib.hid (show w11.heap.size ≤ w16.heap.size by omega)⟩
      · intro K hK
        refine ready_run rfl (some 9) rfl (.pointer (some ⟨w13.heap.size, 0, none⟩)) (w13.alloc (.cells zL 22)) (by go_simp; try rfl) ?_
        simp only [Act.put, List.setIfInBounds_toArray, List.set_cons_zero, List.set_cons_succ]
        obtain ⟨w18, ea⟩ : ∃ u : World, u = w13.alloc (.cells zL 22) := ⟨_, rfl⟩
        rw [← ea]
        have hS := hS.alloc (.cells zL 22)
        rw [← ea] at hS
        have hz18 : w13.heap.size + 1 ≤ w18.heap.size := by rw [ea, alloc_size]; omega
        have hy18 : w11.heap.size ≤ w13.heap.size := hSz
        have xh9 : w18.heap[w13.heap.size]? = some (.cells (zL) 22 (0, 0)) := by rw [ea]; exact heap_new_at _ _ _ rfl
        clear ea
        refine hK.out _ _ hS ?_
        clear hK K
        intro _
        have hSz := hS.size
        refine wpAnyH_ready (rs := [3]) (by kernel_rfl) (by simp) ?_
        refine (AllReadyH.cons rfl ?_ AllReadyH.nil)
        intro K hK
        refine ready_call rfl (some 45) rfl 13 #[.agg (arrC A), .agg (arrC Y)] (by go_simp) ?_
        refine (FieldMul_to A Y L HL _).mono ?_
        rintro e w19 ⟨rfl, hC⟩
        refine ⟨_, rfl, ?_⟩
        simp only [Act.put, List.setIfInBounds_toArray, List.set_cons_zero, List.set_cons_succ]
        have xh9 : w19.heap[w13.heap.size]? = some (.cells (zL) 22 (0, 0)) := (heap_call hC xh9)
        have hS := hS.call hC
        have hz19 := hC.size
        clear hC
        refine hK.out _ _ hS ?_
        clear hK K
        intro _
        have hSz := hS.size
        refine wpAnyH_ready (rs := [5]) (by kernel_rfl) (by simp) ?_
        refine (AllReadyH.cons rfl ?_ AllReadyH.nil)
        intro K hK
        rw [if_pos (by rfl)]
        refine wp_store_row 22 _ _ rfl (w13.heap.size) (arrC L) rfl rfl 22 (zL) xh9 (info32_of (arrC L) (arrC_size _)) (zL_size.trans (arrC_size _).symm) (arrC_one _) ?_
        refine put_at (none) rfl ?_
        simp only [Act.put, List.setIfInBounds_toArray, List.set_cons_zero, List.set_cons_succ]
        have xh9 : (w19.setRow (w13.heap.size) (arrC L)).heap[w13.heap.size]? = some (.cells (arrC L) 22 (0, 0)) := (setRow_heap _ _ _ _ _ _ xh9)
        have hS := hS.storeNew (arrC L) (show w11.heap.size ≤ w13.heap.size by omega)
        generalize w19.setRow (w13.heap.size) (arrC L) = w20 at *
        refine hK.out _ _ hS ?_
        clear hK K
        intro _
        have hSz := hS.size
        refine wpAnyH_done (by kernel_rfl) ?_ _
        refine NoPanic.normal ?_
        have hsz := hS.size
        have h2 : w20.heap[w.heap.size]? = some (.cells (arrC X) 22 (0, 0)) := hS.old h2 (Nat.ne_of_lt (heap_lt h2))
        have h3 : w20.heap[w.heap.size + 1]? = some (.cells (arrC Y) 22 (0, 0)) := hS.old h3 (Nat.ne_of_lt (heap_lt h3))
        have h5 : w20.heap[w1.heap.size]? = some (.cells (arrC R) 22 (0, 0)) := hS.old h5 (Nat.ne_of_lt (heap_lt h5))
        have h7 : w20.heap[w5.heap.size]? = some (.cells (arrC I) 22 (0, 0)) := hS.old h7 (Nat.ne_of_lt (heap_lt h7))
        have h9 := xh9
        have hBw20 : Hid (Below w.heap.size w w20) := Lib.hid (hBw11.out.trans (hS.below (by omega) hBw11.out.size))
        clear hS
        go_wp2_with fail
        go_meet
        exact ⟨w13.heap.size, rfl, Lib.hid (show w11.heap.size ≤ w13.heap.size by omega), Lib.hid h9, Lib.hid h2, Lib.hid h3, Lib.hid h5, Lib.hid h7, Lib.hid hBw20.out, Lib.hid (show w11.heap.size ≤ w20.heap.size by omega)⟩
    · intro K hK
      refine ready_run rfl (some 9) rfl (.pointer (some ⟨w12.heap.size, 0, none⟩)) (w12.alloc (.cells zL 22)) (by go_simp; try rfl) ?_
      simp only [Act.put, List.setIfInBounds_toArray, List.set_cons_zero, List.set_cons_succ]
      obtain ⟨w22, ea⟩ : ∃ u : World, u = w12.alloc (.cells zL 22) := ⟨_, rfl⟩
      rw [← ea]
      have hS := hS.alloc (.cells zL 22)
      rw [← ea] at hS
      have hz22 : w12.heap.size + 1 ≤ w22.heap.size := by rw [ea, alloc_size]; omega
      have hy22 : w11.heap.size ≤ w12.heap.size := hSz
      have xh9 : w22.heap[w12.heap.size]? = some (.cells (zL) 22 (0, 0)) := by rw [ea]; exact heap_new_at _ _ _ rfl
      clear ea
      refine hK.out _ _ hS ?_
      clear hK K
      intro _
      have hSz := hS.size
      refine wpAnyH_ready (rs := [1]) (by kernel_rfl) (by simp) ?_
      refine (AllReadyH.cons rfl ?_ AllReadyH.nil)
      intro K hK
      refine ready_call rfl (some 43) rfl 10 #[.agg (arrC R)] (by go_simp) ?_
      refine (FieldSq_to R A HA _).mono ?_
      rintro e w23 ⟨rfl, hC⟩
      refine ⟨_, rfl, ?_⟩
      simp only [Act.put, List.setIfInBounds_toArray, List.set_cons_zero, List.set_cons_succ]
      have xh9 : w23.heap[w12.heap.size]? = some (.cells (zL) 22 (0, 0)) := (heap_call hC xh9)
      have hS := hS.call hC
      have hz23 := hC.size
      clear hC
      refine hK.out _ _ hS ?_
      clear hK K
      intro _
      have hSz := hS.size
      refine wpAnyH_ready (rs := [3]) (by kernel_rfl) (by simp) ?_
      refine (AllReadyH.cons rfl ?_ AllReadyH.nil)
      intro K hK
      refine ready_call rfl (some 45) rfl 13 #[.agg (arrC A), .agg (arrC Y)] (by go_simp) ?_
      refine (FieldMul_to A Y L HL _).mono ?_
      rintro e w24 ⟨rfl, hC⟩
      refine ⟨_, rfl, ?_⟩
      simp only [Act.put, List.setIfInBounds_toArray, List.set_cons_zero, List.set_cons_succ]
      have xh9 : w24.heap[w12.heap.size]? = some (.cells (zL) 22 (0, 0)) := (heap_call hC xh9)
      have hS := hS.call hC
      have hz24 := hC.size
      clear hC
      refine hK.out _ _ hS ?_
      clear hK K
      intro _
      have hSz := hS.size
      refine wpAnyH_ready (rs := [5]) (by kernel_rfl) (by simp) ?_
      refine (AllReadyH.cons rfl ?_ AllReadyH.nil)
      intro K hK
      rw [if_pos (by rfl)]
      refine wp_store_row 22 _ _ rfl (w12.heap.size) (arrC L) rfl rfl 22 (zL) xh9 (info32_of (arrC L) (arrC_size _)) (zL_size.trans (arrC_size _).symm) (arrC_one _) ?_
      refine put_at (none) rfl ?_
      simp only [Act.put, List.setIfInBounds_toArray, List.set_cons_zero, List.set_cons_succ]
      have xh9 : (w24.setRow (w12.heap.size) (arrC L)).heap[w12.heap.size]? = some (.cells (arrC L) 22 (0, 0)) := (setRow_heap _ _ _ _ _ _ xh9)
      have hS := hS.storeNew (arrC L) (show w11.heap.size ≤ w12.heap.size by omega)
      generalize w24.setRow (w12.heap.size) (arrC L) = w25 at *
      refine hK.out _ _ hS ?_
      clear hK K
      intro _
      have hSz := hS.size
      refine wpAnyH_done (by kernel_rfl) ?_ _
      refine NoPanic.normal ?_
      have hsz := hS.size
      have h2 : w25.heap[w.heap.size]? = some (.cells (arrC X) 22 (0, 0)) := hS.old h2 (Nat.ne_of_lt (heap_lt h2))
      have h3 : w25.heap[w.heap.size + 1]? = some (.cells (arrC Y) 22 (0, 0)) := hS.old h3 (Nat.ne_of_lt (heap_lt h3))
      have h5 : w25.heap[w1.heap.size]? = some (.cells (arrC R) 22 (0, 0)) := hS.old h5 (Nat.ne_of_lt (heap_lt h5))
      have h7 : w25.heap[w5.heap.size]? = some (.cells (arrC I) 22 (0, 0)) := hS.old h7 (Nat.ne_of_lt (heap_lt h7))
      have h9 := xh9
      have hBw25 : Hid (Below w.heap.size w w25) := Lib.hid (hBw11.out.trans (hS.below (by omega) hBw11.out.size))
      clear hS
      go_wp2_with fail
      go_meet
      exact ⟨w12.heap.size, rfl, Lib.hid (show w11.heap.size ≤ w12.heap.size by omega), Lib.hid h9, Lib.hid h2, Lib.hid h3, Lib.hid h5, Lib.hid h7, Lib.hid hBw25.out, Lib.hid (show w11.heap.size ≤ w25.heap.size by omega)⟩
  case rest =>
    obtain ⟨g9, rfl, Hg9, Hh9, Hh2, Hh3, Hh5, Hh7, hBw27, Hsz27⟩ := hcut
    obtain ⟨w27, rfl⟩ : ∃ u : World, u = wc := ⟨_, rfl⟩
    have hgl9 := Hg9.out
    have h9 := Hh9.out
    have hgu9 := heap_lt h9
    have h2 := Hh2.out
    have h3 := Hh3.out
    have h5 := Hh5.out
    have h7 := Hh7.out
    have hsz27 := Hsz27.out
    go_wp2_with fail
    refine wp_named ?_
    intro w28 ew28
    have hs28 : w27.heap.size ≤ w28.heap.size := by rw [ew28]; (try simp only [alloc_size, setRow_size]); omega
    replace h2 : w28.heap[w.heap.size]? = some (.cells (arrC X) 22 (0, 0)) := by rw [ew28]; exact h2
    replace h3 : w28.heap[w.heap.size + 1]? = some (.cells (arrC Y) 22 (0, 0)) := by rw [ew28]; exact h3
    replace h5 : w28.heap[w1.heap.size]? = some (.cells (arrC R) 22 (0, 0)) := by rw [ew28]; exact h5
    replace h7 : w28.heap[w5.heap.size]? = some (.cells (arrC I) 22 (0, 0)) := by rw [ew28]; exact h7
    replace h9 : w28.heap[g9]? = some (.cells (arrC L) 22 (0, 0)) := by rw [ew28]; exact h9
    have hBw28 : Hid (Below w.heap.size w w28) := Lib.hid (by rw [ew28]; exact hBw27.out)
    clear ew28
    refine wp_region_noPanic ?_
    refine wp_region_held_drew (S := Keep (w28.heap.size) w28) (by kernel_rfl) (Keep.start _ _) ?_
    intro hS
    obtain ⟨w29, ed⟩ : ∃ u : World, u = w28.drew := ⟨_, rfl⟩
    rw [← ed] at hS ⊢
    have xh2 : w29.heap[w.heap.size]? = some (.cells (arrC X) 22 (0, 0)) := by rw [ed]; exact h2
    have xh3 : w29.heap[w.heap.size + 1]? = some (.cells (arrC Y) 22 (0, 0)) := by rw [ed]; exact h3
    have xh5 : w29.heap[w1.heap.size]? = some (.cells (arrC R) 22 (0, 0)) := by rw [ed]; exact h5
    have xh7 : w29.heap[w5.heap.size]? = some (.cells (arrC I) 22 (0, 0)) := by rw [ed]; exact h7
    have xh9 : w29.heap[g9]? = some (.cells (arrC L) 22 (0, 0)) := by rw [ed]; exact h9
    clear ed
    have hSz := hS.size
    clear xh2
    clear xh3
    clear xh5
    clear xh7
    clear xh9
    refine takeAt (i := 0) (v := .agg (arrC L)) rfl (some 48) rfl (by kernel_rfl) (by kernel_rfl) (by kernel_rfl) (fun _ _ _ h => h) (take_row rfl _ _ rfl (g9) rfl _ _ _ h9 (Nat.ne_of_lt (heap_lt h9)) under32 rfl (info32_of (arrC L) (arrC_size _))) hS ?_
    simp only [Act.put, List.setIfInBounds_toArray, List.set_cons_zero, List.set_cons_succ]
    refine takeAt (i := 1) (v := .agg (arrC X)) rfl (some 49) rfl (by kernel_rfl) (by kernel_rfl) (by kernel_rfl) (fun _ _ _ h => h) (take_row rfl _ _ rfl (w.heap.size) rfl _ _ _ h2 (Nat.ne_of_lt (heap_lt h2)) under32 rfl (info32_of (arrC X) (arrC_size _))) hS ?_
    simp only [Act.put, List.setIfInBounds_toArray, List.set_cons_zero, List.set_cons_succ]
    refine wpAnyH_ready (rs := [2]) (by kernel_rfl) (by simp) ?_
    refine (AllReadyH.cons rfl ?_ AllReadyH.nil)
    intro K hK
    refine ready_call rfl (some 50) rfl 14 #[.agg (arrC X)] (by go_simp) ?_
    refine (plain_to X L HXL _).mono ?_
    rintro e w30 ⟨rfl, hC⟩
    refine ⟨_, rfl, ?_⟩
    simp only [Act.put, List.setIfInBounds_toArray, List.set_cons_zero, List.set_cons_succ]
    have hS := hS.call hC
    have hz30 := hC.size
    clear hC
    refine hK.out _ _ hS ?_
    clear hK K
    intro _
    have hSz := hS.size
    refine takeAt (i := 3) (v := .bool true) rfl (some 51) rfl (by kernel_rfl) (by kernel_rfl) (by kernel_rfl) (fun _ _ _ h => h) (take_run rfl (fun _ _ => by go_simp; rw [run_eq_arr _ _ lL lL]; simp)) hS ?_
    simp only [Act.put, List.setIfInBounds_toArray, List.set_cons_zero, List.set_cons_succ]
    refine takeAt (i := 4) (v := .bool true) rfl (some 4) rfl (by kernel_rfl) (by kernel_rfl) (by kernel_rfl) (fun _ _ _ h => h) (take_run rfl (fun _ _ => by go_simp)) hS ?_
    simp only [Act.put, List.setIfInBounds_toArray, List.set_cons_zero, List.set_cons_succ]
    refine wpAnyH_done (by kernel_rfl) ?_ _
    refine NoPanic.normal ?_
    have hsz := hS.size
    have h2 : w30.heap[w.heap.size]? = some (.cells (arrC X) 22 (0, 0)) := hS.old h2 (Nat.ne_of_lt (heap_lt h2))
    have h3 : w30.heap[w.heap.size + 1]? = some (.cells (arrC Y) 22 (0, 0)) := hS.old h3 (Nat.ne_of_lt (heap_lt h3))
    have h5 : w30.heap[w1.heap.size]? = some (.cells (arrC R) 22 (0, 0)) := hS.old h5 (Nat.ne_of_lt (heap_lt h5))
    have h7 : w30.heap[w5.heap.size]? = some (.cells (arrC I) 22 (0, 0)) := hS.old h7 (Nat.ne_of_lt (heap_lt h7))
    have h9 : w30.heap[g9]? = some (.cells (arrC L) 22 (0, 0)) := hS.old h9 (Nat.ne_of_lt (heap_lt h9))
    have hBw30 : Hid (Below w.heap.size w w30) := Lib.hid (hBw28.out.trans (hS.below (by omega) hBw28.out.size))
    clear hS
    go_wp2
    go_ret
    exact ⟨rfl, hBw30.out⟩

set_option maxHeartbeats 4000000 in
theorem RtSq_no (X Y : Nat) (h : Hid (sqW (valN X) (valN Y) = false ∧ ¬ valN Y = 0)) (B : Nat) (w : World) (hD0 : Var 1 z5 B w) (hD1 : Var 0 i5 B w) :
    Calls Tryd.prog 4 #[.agg (arrC X), .agg (arrC Y)] w fun e w' => e = .returned (.bool true) ∧ Below w.heap.size w w' := by
  obtain ⟨R, qR⟩ : ∃ u : Nat, u = sqR (valN X) (valN Y) := ⟨_, rfl⟩
  have HR := Lib.hid qR; clear qR
  obtain ⟨Q, qQ⟩ : ∃ u : Nat, u = (pF - valN 1) % pF := ⟨_, rfl⟩
  have HQ := Lib.hid qQ; clear qQ
  obtain ⟨I, qI⟩ : ∃ u : Nat, u = sqR (valN Q) (valN 1) := ⟨_, rfl⟩
  have HI := Lib.hid qI; clear qI
  obtain ⟨TY, qTY⟩ : ∃ u : Nat, u = valN Y := ⟨_, rfl⟩
  have HTY := Lib.hid qTY; clear qTY
  obtain ⟨A, qA⟩ : ∃ u : Nat, u = valN R * valN R % pF := ⟨_, rfl⟩
  have HA := Lib.hid qA; clear qA
  obtain ⟨L, qL⟩ : ∃ u : Nat, u = valN A * valN Y % pF := ⟨_, rfl⟩
  have HL := Lib.hid qL; clear qL
  have vX := valN_lt X; have vY := valN_lt Y
  have v1 : valN 1 = 1 := valN_of_lt _ (by unfold pF; omega)
  have eQ1 : Q = pF - 1 := by rw [HQ.out, v1, Nat.mod_eq_of_lt (by unfold pF; omega)]
  have vQ : valN Q = pF - 1 := by rw [valN_of_lt _ (by rw [eQ1]; unfold pF; omega)]; exact eQ1
  have eI : I = iN := by rw [HI.out, vQ, v1]; exact m1_way.2
  have vI : valN I = iN := by rw [valN_of_lt _ (by rw [eI]; exact iN_lt)]; exact eI
  have vR : valN R = R := valN_of_lt _ (by rw [HR.out]; exact sqR_lt _ _)
  have vA : valN A = A := valN_of_lt _ (by rw [HA.out]; exact mod_lt_p _)
  have HZI : Hid ((1 : Int) = if sqW (valN Q) (valN 1) then 1 else 0) := Lib.hid (by rw [vQ, v1, m1_way.1]; rfl)
  have HIQ : Hid (Q = valN I * valN I % pF) := Lib.hid (by rw [vI, iN_sq]; exact eQ1)
  have HRn : Hid ((0 : Int) = ((valN R % 2 : Nat) : Int)) := Lib.hid (by rw [vR, HR.out, sqR_even]; rfl)
  have lQ : Q < 256 ^ 32 := by rw [eQ1]; have := p_lt; omega
  have lR : R < 256 ^ 32 := by rw [HR.out]; exact Nat.lt_trans (sqR_lt _ _) p_lt
  have lL : L < 256 ^ 32 := by rw [HL.out]; exact Nat.lt_trans (mod_lt_p _) p_lt
  have e1 : sqW (valN X) (valN Y) = false := by exact h.out.1
  have HZ : Hid ((0 : Int) = if sqW (valN X) (valN Y) then 1 else 0) := Lib.hid (by rw [e1]; rfl)
  have hzy : Hid (¬ TY = 0) := Lib.hid (by rw [HTY.out]; exact h.out.2)
  have HIX : Hid (L = valN I * valN X % pF) := Lib.hid (by rw [HL.out, vA, HA.out, vR, HR.out, vI]; exact root_no _ _ vX vY h.out.2 e1)
  clear h vX vY vA v1 vQ vI vR eI eQ1 e1
  have e1 := fun u : World => run_eq_arr Q Q lQ lQ u
  rw [show (decide (Q = Q)) = true from by simp] at e1
  have hBl := hD0.1
  go_enter Tryd.func4, Tryd.ntmps4
  go_wp2_with (first
    | ((with_reducible refine at_dst 11 ?_); refine wpList_load_row rfl 22 _ rfl (w.heap.size) rfl 22 (arrC X) (0, 0) _ (heap_old _ (heap_new_at _ _ _ rfl)) under32 rfl (info32_of (arrC X) (arrC_size _)) ?_)
    | ((with_reducible refine at_dst 12 ?_); refine wpList_load_row rfl 22 _ rfl (w.heap.size + 1) rfl 22 (arrC Y) (0, 0) _ (heap_new_at _ _ _ (by simp only [alloc_size, setRow_size])) under32 rfl (info32_of (arrC Y) (arrC_size _)) ?_))
  refine (FieldSqrt_to X Y R 0 HR HZ B _ (hD0.later (below_alloc (below_alloc (Below.refl _ w) _) _)) (hD1.later (below_alloc (below_alloc (Below.refl _ w) _) _))).mono ?_
  rintro e w1 ⟨rfl, hC1⟩
  have hs1 : w.heap.size + 1 + 1 ≤ w1.heap.size := by have := hC1.size; (try simp only [alloc_size, setRow_size] at this); omega
  replace h2 : w1.heap[w.heap.size]? = some (.cells (arrC X) 22 (0, 0)) := (heap_call hC1 (heap_old _ (heap_new_at _ _ _ rfl)))
  replace h3 : w1.heap[w.heap.size + 1]? = some (.cells (arrC Y) 22 (0, 0)) := (heap_call hC1 (heap_new_at _ _ _ (by simp only [alloc_size, setRow_size])))
  have hBw1 : Hid (Below w.heap.size w w1) := Lib.hid (below_call (below_alloc (below_alloc (Below.refl _ w) _) _) hC1)
  clear hC1
  go_wp2_with (first
    | ((with_reducible refine at_store 5 ?_); refine wpList_store_row rfl 22 _ _ rfl (w1.heap.size) (arrC R) rfl rfl 22 (zL) (heap_new_at _ _ _ rfl) (info32_of (arrC R) (arrC_size _)) (zL_size.trans (arrC_size _).symm) (arrC_one _) ?_))
  refine (number_vv 1 (by omega) _).mono ?_
  rintro e w2 ⟨rfl, hC2⟩
  have hs2 : w1.heap.size + 1 ≤ w2.heap.size := by have := hC2.size; (try simp only [alloc_size, setRow_size] at this); omega
  replace h2 : w2.heap[w.heap.size]? = some (.cells (arrC X) 22 (0, 0)) := (heap_call hC2 (heap_row _ (by omega) (heap_old _ h2)))
  replace h3 : w2.heap[w.heap.size + 1]? = some (.cells (arrC Y) 22 (0, 0)) := (heap_call hC2 (heap_row _ (by omega) (heap_old _ h3)))
  replace h5 : w2.heap[w1.heap.size]? = some (.cells (arrC R) 22 (0, 0)) := (heap_call hC2 (setRow_heap _ _ _ _ _ _ (heap_new_at _ _ _ rfl)))
  have hBw2 : Hid (Below w.heap.size w w2) := Lib.hid (below_call (below_setRow (below_alloc hBw1.out _) (by omega) _) hC2)
  clear hC2
  go_wp2_with fail
  refine (FieldNeg_any 1 Q B HQ _ (hD0.later hBw2.out)).mono ?_
  rintro e w3 ⟨rfl, hC3⟩
  have hs3 : w2.heap.size ≤ w3.heap.size := by have := hC3.size; (try simp only [alloc_size, setRow_size] at this); omega
  replace h2 : w3.heap[w.heap.size]? = some (.cells (arrC X) 22 (0, 0)) := (heap_call hC3 h2)
  replace h3 : w3.heap[w.heap.size + 1]? = some (.cells (arrC Y) 22 (0, 0)) := (heap_call hC3 h3)
  replace h5 : w3.heap[w1.heap.size]? = some (.cells (arrC R) 22 (0, 0)) := (heap_call hC3 h5)
  have hBw3 : Hid (Below w.heap.size w w3) := Lib.hid (below_call hBw2.out hC3)
  clear hC3
  go_wp2_with fail
  refine (number_vv 1 (by omega) _).mono ?_
  rintro e w4 ⟨rfl, hC4⟩
  have hs4 : w3.heap.size ≤ w4.heap.size := by have := hC4.size; (try simp only [alloc_size, setRow_size] at this); omega
  replace h2 : w4.heap[w.heap.size]? = some (.cells (arrC X) 22 (0, 0)) := (heap_call hC4 h2)
  replace h3 : w4.heap[w.heap.size + 1]? = some (.cells (arrC Y) 22 (0, 0)) := (heap_call hC4 h3)
  replace h5 : w4.heap[w1.heap.size]? = some (.cells (arrC R) 22 (0, 0)) := (heap_call hC4 h5)
  have hBw4 : Hid (Below w.heap.size w w4) := Lib.hid (below_call hBw3.out hC4)
  clear hC4
  go_wp2_with fail
  refine (FieldSqrt_to Q 1 I 1 HI HZI B _ (hD0.later hBw4.out) (hD1.later hBw4.out)).mono ?_
  rintro e w5 ⟨rfl, hC5⟩
  have hs5 : w4.heap.size ≤ w5.heap.size := by have := hC5.size; (try simp only [alloc_size, setRow_size] at this); omega
  replace h2 : w5.heap[w.heap.size]? = some (.cells (arrC X) 22 (0, 0)) := (heap_call hC5 h2)
  replace h3 : w5.heap[w.heap.size + 1]? = some (.cells (arrC Y) 22 (0, 0)) := (heap_call hC5 h3)
  replace h5 : w5.heap[w1.heap.size]? = some (.cells (arrC R) 22 (0, 0)) := (heap_call hC5 h5)
  have hBw5 : Hid (Below w.heap.size w w5) := Lib.hid (below_call hBw4.out hC5)
  clear hC5
  go_wp2_with (first
    | ((with_reducible refine at_store 7 ?_); refine wpList_store_row rfl 22 _ _ rfl (w5.heap.size) (arrC I) rfl rfl 22 (zL) (heap_new_at _ _ _ rfl) (info32_of (arrC I) (arrC_size _)) (zL_size.trans (arrC_size _).symm) (arrC_one _) ?_)
    | ((with_reducible refine at_dst 26 ?_); refine load_guarded rfl 22 _ rfl (w5.heap.size) rfl 22 (arrC I) (0, 0) _ (setRow_heap _ _ _ _ _ _ (heap_new_at _ _ _ rfl)) under32 rfl (info32_of (arrC I) (arrC_size _)) ?_))
  refine (FieldSq_to I Q HIQ _).mono ?_
  rintro e w6 ⟨rfl, hC6⟩
  have hs6 : w5.heap.size + 1 ≤ w6.heap.size := by have := hC6.size; (try simp only [alloc_size, setRow_size] at this); omega
  replace h2 : w6.heap[w.heap.size]? = some (.cells (arrC X) 22 (0, 0)) := (heap_call hC6 (heap_row _ (by omega) (heap_old _ h2)))
  replace h3 : w6.heap[w.heap.size + 1]? = some (.cells (arrC Y) 22 (0, 0)) := (heap_call hC6 (heap_row _ (by omega) (heap_old _ h3)))
  replace h5 : w6.heap[w1.heap.size]? = some (.cells (arrC R) 22 (0, 0)) := (heap_call hC6 (heap_row _ (by omega) (heap_old _ h5)))
  replace h7 : w6.heap[w5.heap.size]? = some (.cells (arrC I) 22 (0, 0)) := (heap_call hC6 (setRow_heap _ _ _ _ _ _ (heap_new_at _ _ _ rfl)))
  have hBw6 : Hid (Below w.heap.size w w6) := Lib.hid (below_call (below_setRow (below_alloc hBw5.out _) (by omega) _) hC6)
  clear hC6
  go_wp2_with fail
  refine (number_vv 1 (by omega) _).mono ?_
  rintro e w7 ⟨rfl, hC7⟩
  have hs7 : w6.heap.size ≤ w7.heap.size := by have := hC7.size; (try simp only [alloc_size, setRow_size] at this); omega
  replace h2 : w7.heap[w.heap.size]? = some (.cells (arrC X) 22 (0, 0)) := (heap_call hC7 h2)
  replace h3 : w7.heap[w.heap.size + 1]? = some (.cells (arrC Y) 22 (0, 0)) := (heap_call hC7 h3)
  replace h5 : w7.heap[w1.heap.size]? = some (.cells (arrC R) 22 (0, 0)) := (heap_call hC7 h5)
  replace h7 : w7.heap[w5.heap.size]? = some (.cells (arrC I) 22 (0, 0)) := (heap_call hC7 h7)
  have hBw7 : Hid (Below w.heap.size w w7) := Lib.hid (below_call hBw6.out hC7)
  clear hC7
  go_wp2_with fail
  refine (FieldNeg_any 1 Q B HQ _ (hD0.later hBw7.out)).mono ?_
  rintro e w8 ⟨rfl, hC8⟩
  have hs8 : w7.heap.size ≤ w8.heap.size := by have := hC8.size; (try simp only [alloc_size, setRow_size] at this); omega
  replace h2 : w8.heap[w.heap.size]? = some (.cells (arrC X) 22 (0, 0)) := (heap_call hC8 h2)
  replace h3 : w8.heap[w.heap.size + 1]? = some (.cells (arrC Y) 22 (0, 0)) := (heap_call hC8 h3)
  replace h5 : w8.heap[w1.heap.size]? = some (.cells (arrC R) 22 (0, 0)) := (heap_call hC8 h5)
  replace h7 : w8.heap[w5.heap.size]? = some (.cells (arrC I) 22 (0, 0)) := (heap_call hC8 h7)
  have hBw8 : Hid (Below w.heap.size w w8) := Lib.hid (below_call hBw7.out hC8)
  clear hC8
  go_wp2_with (first
    | ((with_reducible refine at_dst 33 ?_); refine load_guarded rfl 22 _ rfl (w1.heap.size) rfl 22 (arrC R) (0, 0) _ h5 under32 rfl (info32_of (arrC R) (arrC_size _)) ?_))
  refine (FieldIsNeg_any R _ 0 HRn).mono ?_
  rintro e w9 ⟨rfl, hC9⟩
  have hs9 : w8.heap.size ≤ w9.heap.size := by have := hC9.size; (try simp only [alloc_size, setRow_size] at this); omega
  replace h2 : w9.heap[w.heap.size]? = some (.cells (arrC X) 22 (0, 0)) := (heap_call hC9 h2)
  replace h3 : w9.heap[w.heap.size + 1]? = some (.cells (arrC Y) 22 (0, 0)) := (heap_call hC9 h3)
  replace h5 : w9.heap[w1.heap.size]? = some (.cells (arrC R) 22 (0, 0)) := (heap_call hC9 h5)
  replace h7 : w9.heap[w5.heap.size]? = some (.cells (arrC I) 22 (0, 0)) := (heap_call hC9 h7)
  have hBw9 : Hid (Below w.heap.size w w9) := Lib.hid (below_call hBw8.out hC9)
  clear hC9
  go_wp2_with (first
    | ((with_reducible refine at_dst 37 ?_); refine wpList_load_row rfl 22 _ rfl (w.heap.size + 1) rfl 22 (arrC Y) (0, 0) _ h3 under32 rfl (info32_of (arrC Y) (arrC_size _)) ?_))
  refine (isZero_false Y TY HTY hzy _).mono ?_
  rintro e w10 ⟨rfl, hC10⟩
  have hs10 : w9.heap.size ≤ w10.heap.size := by have := hC10.size; (try simp only [alloc_size, setRow_size] at this); omega
  replace h2 : w10.heap[w.heap.size]? = some (.cells (arrC X) 22 (0, 0)) := (heap_call hC10 h2)
  replace h3 : w10.heap[w.heap.size + 1]? = some (.cells (arrC Y) 22 (0, 0)) := (heap_call hC10 h3)
  replace h5 : w10.heap[w1.heap.size]? = some (.cells (arrC R) 22 (0, 0)) := (heap_call hC10 h5)
  replace h7 : w10.heap[w5.heap.size]? = some (.cells (arrC I) 22 (0, 0)) := (heap_call hC10 h7)
  have hBw10 : Hid (Below w.heap.size w w10) := Lib.hid (below_call hBw9.out hC10)
  clear hC10
  go_wp2_with fail
  refine wp_named ?_
  intro w11 ew11
  have hs11 : w10.heap.size ≤ w11.heap.size := by rw [ew11]; (try simp only [alloc_size, setRow_size]); omega
  replace h2 : w11.heap[w.heap.size]? = some (.cells (arrC X) 22 (0, 0)) := by rw [ew11]; exact h2
  replace h3 : w11.heap[w.heap.size + 1]? = some (.cells (arrC Y) 22 (0, 0)) := by rw [ew11]; exact h3
  replace h5 : w11.heap[w1.heap.size]? = some (.cells (arrC R) 22 (0, 0)) := by rw [ew11]; exact h5
  replace h7 : w11.heap[w5.heap.size]? = some (.cells (arrC I) 22 (0, 0)) := by rw [ew11]; exact h7
  have hBw11 : Hid (Below w.heap.size w w11) := Lib.hid (by rw [ew11]; exact hBw10.out)
  clear ew11
  go_cut [9] (fun s9 wx => ∃ g9 : Nat, s9 = .pointer (some ⟨g9, 0, none⟩) ∧ Hid (w11.heap.size ≤ g9) ∧ Hid (wx.heap[g9]? = some (.cells (arrC L) 22 (0, 0))) ∧ Hid (wx.heap[w.heap.size]? = some (.cells (arrC X) 22 (0, 0))) ∧ Hid (wx.heap[w.heap.size + 1]? = some (.cells (arrC Y) 22 (0, 0))) ∧ Hid (wx.heap[w1.heap.size]? = some (.cells (arrC R) 22 (0, 0))) ∧ Hid (wx.heap[w5.heap.size]? = some (.cells (arrC I) 22 (0, 0))) ∧ Hid (Below w.heap.size w wx) ∧ Hid (w11.heap.size ≤ wx.heap.size))
  case first =>
    refine wp_region_noPanic ?_
    refine wp_region_held_drew (S := Keep (w11.heap.size) w11) (by kernel_rfl) (Keep.start _ _) ?_
    intro hS
    obtain ⟨w12, ed⟩ : ∃ u : World, u = w11.drew := ⟨_, rfl⟩
    rw [← ed] at hS ⊢
    have xh2 : w12.heap[w.heap.size]? = some (.cells (arrC X) 22 (0, 0)) := by rw [ed]; exact h2
    have xh3 : w12.heap[w.heap.size + 1]? = some (.cells (arrC Y) 22 (0, 0)) := by rw [ed]; exact h3
    have xh5 : w12.heap[w1.heap.size]? = some (.cells (arrC R) 22 (0, 0)) := by rw [ed]; exact h5
    have xh7 : w12.heap[w5.heap.size]? = some (.cells (arrC I) 22 (0, 0)) := by rw [ed]; exact h7
    clear ed
    have hSz := hS.size
    clear xh2
    clear xh3
    clear xh5
    clear xh7
    refine takeAt (i := 0) (v := .agg (arrC R)) rfl (some 42) rfl (by kernel_rfl) (by kernel_rfl) (by kernel_rfl) (fun _ _ _ h => h) (take_row rfl _ _ rfl (w1.heap.size) rfl _ _ _ h5 (Nat.ne_of_lt (heap_lt h5)) under32 rfl (info32_of (arrC R) (arrC_size _))) hS ?_
    simp only [Act.put, List.setIfInBounds_toArray, List.set_cons_zero, List.set_cons_succ]
    refine takeAt (i := 2) (v := .agg (arrC Y)) rfl (some 44) rfl (by kernel_rfl) (by kernel_rfl) (by kernel_rfl) (fun _ _ _ h => h) (take_row rfl _ _ rfl (w.heap.size + 1) rfl _ _ _ h3 (Nat.ne_of_lt (heap_lt h3)) under32 rfl (info32_of (arrC Y) (arrC_size _))) hS ?_
    simp only [Act.put, List.setIfInBounds_toArray, List.set_cons_zero, List.set_cons_succ]
    refine wpAnyH_ready (rs := [1, 4]) (by kernel_rfl) (by simp) ?_
    refine (AllReadyH.cons rfl ?_ (AllReadyH.cons rfl ?_ AllReadyH.nil))
    · intro K hK
      refine ready_call rfl (some 43) rfl 10 #[.agg (arrC R)] (by go_simp) ?_
      refine (FieldSq_to R A HA _).mono ?_
      rintro e w13 ⟨rfl, hC⟩
      refine ⟨_, rfl, ?_⟩
      simp only [Act.put, List.setIfInBounds_toArray, List.set_cons_zero, List.set_cons_succ]
      have hS := hS.call hC
      have hz13 := hC.size
      clear hC
      refine hK.out _ _ hS ?_
      clear hK K
      intro _
      have hSz := hS.size
      refine wpAnyH_ready (rs := [3, 4]) (by kernel_rfl) (by simp) ?_
      refine (AllReadyH.cons rfl ?_ (AllReadyH.cons rfl ?_ AllReadyH.nil))
      · intro K hK
        refine ready_call rfl (some 45) rfl 13 #[.agg (arrC A), .agg (arrC Y)] (by go_simp) ?_
        refine (FieldMul_to A Y L HL _).mono ?_
        rintro e w14 ⟨rfl, hC⟩
        refine ⟨_, rfl, ?_⟩
        simp only [Act.put, List.setIfInBounds_toArray, List.set_cons_zero, List.set_cons_succ]
        have hS := hS.call hC
        have hz14 := hC.size
        clear hC
        refine hK.out _ _ hS ?_
        clear hK K
        intro _
        have hSz := hS.size
        refine wpAnyH_ready (rs := [4]) (by kernel_rfl) (by simp) ?_
        refine (AllReadyH.cons rfl ?_ AllReadyH.nil)
        intro K hK
        refine ready_run rfl (some 9) rfl (.pointer (some ⟨w14.heap.size, 0, none⟩)) (w14.alloc (.cells zL 22)) (by go_simp; try rfl) ?_
        simp only [Act.put, List.setIfInBounds_toArray, List.set_cons_zero, List.set_cons_succ]
        obtain ⟨w15, ea⟩ : ∃ u : World, u = w14.alloc (.cells zL 22) := ⟨_, rfl⟩
        rw [← ea]
        have hS := hS.alloc (.cells zL 22)
        rw [← ea] at hS
        have hz15 : w14.heap.size + 1 ≤ w15.heap.size := by rw [ea, alloc_size]; omega
        have hy15 : w11.heap.size ≤ w14.heap.size := hSz
        have xh9 : w15.heap[w14.heap.size]? = some (.cells (zL) 22 (0, 0)) := by rw [ea]; exact heap_new_at _ _ _ rfl
        clear ea
        refine hK.out _ _ hS ?_
        clear hK K
        intro _
        have hSz := hS.size
        refine wpAnyH_ready (rs := [5]) (by kernel_rfl) (by simp) ?_
        refine (AllReadyH.cons rfl ?_ AllReadyH.nil)
        intro K hK
        rw [if_pos (by rfl)]
        refine wp_store_row 22 _ _ rfl (w14.heap.size) (arrC L) rfl rfl 22 (zL) xh9 (info32_of (arrC L) (arrC_size _)) (zL_size.trans (arrC_size _).symm) (arrC_one _) ?_
        refine put_at (none) rfl ?_
        simp only [Act.put, List.setIfInBounds_toArray, List.set_cons_zero, List.set_cons_succ]
        have xh9 : (w15.setRow (w14.heap.size) (arrC L)).heap[w14.heap.size]? = some (.cells (arrC L) 22 (0, 0)) := (setRow_heap _ _ _ _ _ _ xh9)
        have hS := hS.storeNew (arrC L) (show w11.heap.size ≤ w14.heap.size by omega)
        generalize w15.setRow (w14.heap.size) (arrC L) = w16 at *
        refine hK.out _ _ hS ?_
        clear hK K
        intro _
        have hSz := hS.size
        refine wpAnyH_done (by kernel_rfl) ?_ _
        refine NoPanic.normal ?_
        have hsz := hS.size
        have h2 : w16.heap[w.heap.size]? = some (.cells (arrC X) 22 (0, 0)) := hS.old h2 (Nat.ne_of_lt (heap_lt h2))
        have h3 : w16.heap[w.heap.size + 1]? = some (.cells (arrC Y) 22 (0, 0)) := hS.old h3 (Nat.ne_of_lt (heap_lt h3))
        have h5 : w16.heap[w1.heap.size]? = some (.cells (arrC R) 22 (0, 0)) := hS.old h5 (Nat.ne_of_lt (heap_lt h5))
        have h7 : w16.heap[w5.heap.size]? = some (.cells (arrC I) 22 (0, 0)) := hS.old h7 (Nat.ne_of_lt (heap_lt h7))
        have h9 := xh9
        have hBw16 : Hid (Below w.heap.size w w16) := Lib.hid (hBw11.out.trans (hS.below (by omega) hBw11.out.size))
        clear hS
        go_wp2_with fail
        go_meet
        exact ⟨w14.heap.size, rfl, Lib.hid (show w11.heap.size ≤ w14.heap.size by omega), Lib.hid h9, Lib.hid h2, Lib.hid h3, Lib.hid h5, Lib.hid h7, Lib.hid hBw16.out, Lib.hid (show w11.heap.size ≤ w16.heap.size by omega)⟩
      · intro K hK
        refine ready_run rfl (some 9) rfl (.pointer (some ⟨w13.heap.size, 0, none⟩)) (w13.alloc (.cells zL 22)) (by go_simp; try rfl) ?_
        simp only [Act.put, List.setIfInBounds_toArray, List.set_cons_zero, List.set_cons_succ]
        obtain ⟨w18, ea⟩ : ∃ u : World, u = w13.alloc (.cells zL 22) := ⟨_, rfl⟩
        rw [← ea]
        have hS := hS.alloc (.cells zL 22)
        rw [← ea] at hS
        have hz18 : w13.heap.size + 1 ≤ w18.heap.size := by rw [ea, alloc_size]; omega
        have hy18 : w11.heap.size ≤ w13.heap.size := hSz
        have xh9 : w18.heap[w13.heap.size]? = some (.cells (zL) 22 (0, 0)) := by rw [ea]; exact heap_new_at _ _ _ rfl
        clear ea
        refine hK.out _ _ hS ?_
        clear hK K
        intro _
        have hSz := hS.size
        refine wpAnyH_ready (rs := [3]) (by kernel_rfl) (by simp) ?_
        refine (AllReadyH.cons rfl ?_ AllReadyH.nil)
        intro K hK
        refine ready_call rfl (some 45) rfl 13 #[.agg (arrC A), .agg (arrC Y)] (by go_simp) ?_
        refine (FieldMul_to A Y L HL _).mono ?_
        rintro e w19 ⟨rfl, hC⟩
        refine ⟨_, rfl, ?_⟩
        simp only [Act.put, List.setIfInBounds_toArray, List.set_cons_zero, List.set_cons_succ]
        have xh9 : w19.heap[w13.heap.size]? = some (.cells (zL) 22 (0, 0)) := (heap_call hC xh9)
        have hS := hS.call hC
        have hz19 := hC.size
        clear hC
        refine hK.out _ _ hS ?_
        clear hK K
        intro _
        have hSz := hS.size
        refine wpAnyH_ready (rs := [5]) (by kernel_rfl) (by simp) ?_
        refine (AllReadyH.cons rfl ?_ AllReadyH.nil)
        intro K hK
        rw [if_pos (by rfl)]
        refine wp_store_row 22 _ _ rfl (w13.heap.size) (arrC L) rfl rfl 22 (zL) xh9 (info32_of (arrC L) (arrC_size _)) (zL_size.trans (arrC_size _).symm) (arrC_one _) ?_
        refine put_at (none) rfl ?_
        simp only [Act.put, List.setIfInBounds_toArray, List.set_cons_zero, List.set_cons_succ]
        have xh9 : (w19.setRow (w13.heap.size) (arrC L)).heap[w13.heap.size]? = some (.cells (arrC L) 22 (0, 0)) := (setRow_heap _ _ _ _ _ _ xh9)
        have hS := hS.storeNew (arrC L) (show w11.heap.size ≤ w13.heap.size by omega)
        generalize w19.setRow (w13.heap.size) (arrC L) = w20 at *
        refine hK.out _ _ hS ?_
        clear hK K
        intro _
        have hSz := hS.size
        refine wpAnyH_done (by kernel_rfl) ?_ _
        refine NoPanic.normal ?_
        have hsz := hS.size
        have h2 : w20.heap[w.heap.size]? = some (.cells (arrC X) 22 (0, 0)) := hS.old h2 (Nat.ne_of_lt (heap_lt h2))
        have h3 : w20.heap[w.heap.size + 1]? = some (.cells (arrC Y) 22 (0, 0)) := hS.old h3 (Nat.ne_of_lt (heap_lt h3))
        have h5 : w20.heap[w1.heap.size]? = some (.cells (arrC R) 22 (0, 0)) := hS.old h5 (Nat.ne_of_lt (heap_lt h5))
        have h7 : w20.heap[w5.heap.size]? = some (.cells (arrC I) 22 (0, 0)) := hS.old h7 (Nat.ne_of_lt (heap_lt h7))
        have h9 := xh9
        have hBw20 : Hid (Below w.heap.size w w20) := Lib.hid (hBw11.out.trans (hS.below (by omega) hBw11.out.size))
        clear hS
        go_wp2_with fail
        go_meet
        exact ⟨w13.heap.size, rfl, Lib.hid (show w11.heap.size ≤ w13.heap.size by omega), Lib.hid h9, Lib.hid h2, Lib.hid h3, Lib.hid h5, Lib.hid h7, Lib.hid hBw20.out, Lib.hid (show w11.heap.size ≤ w20.heap.size by omega)⟩
    · intro K hK
      refine ready_run rfl (some 9) rfl (.pointer (some ⟨w12.heap.size, 0, none⟩)) (w12.alloc (.cells zL 22)) (by go_simp; try rfl) ?_
      simp only [Act.put, List.setIfInBounds_toArray, List.set_cons_zero, List.set_cons_succ]
      obtain ⟨w22, ea⟩ : ∃ u : World, u = w12.alloc (.cells zL 22) := ⟨_, rfl⟩
      rw [← ea]
      have hS := hS.alloc (.cells zL 22)
      rw [← ea] at hS
      have hz22 : w12.heap.size + 1 ≤ w22.heap.size := by rw [ea, alloc_size]; omega
      have hy22 : w11.heap.size ≤ w12.heap.size := hSz
      have xh9 : w22.heap[w12.heap.size]? = some (.cells (zL) 22 (0, 0)) := by rw [ea]; exact heap_new_at _ _ _ rfl
      clear ea
      refine hK.out _ _ hS ?_
      clear hK K
      intro _
      have hSz := hS.size
      refine wpAnyH_ready (rs := [1]) (by kernel_rfl) (by simp) ?_
      refine (AllReadyH.cons rfl ?_ AllReadyH.nil)
      intro K hK
      refine ready_call rfl (some 43) rfl 10 #[.agg (arrC R)] (by go_simp) ?_
      refine (FieldSq_to R A HA _).mono ?_
      rintro e w23 ⟨rfl, hC⟩
      refine ⟨_, rfl, ?_⟩
      simp only [Act.put, List.setIfInBounds_toArray, List.set_cons_zero, List.set_cons_succ]
      have xh9 : w23.heap[w12.heap.size]? = some (.cells (zL) 22 (0, 0)) := (heap_call hC xh9)
      have hS := hS.call hC
      have hz23 := hC.size
      clear hC
      refine hK.out _ _ hS ?_
      clear hK K
      intro _
      have hSz := hS.size
      refine wpAnyH_ready (rs := [3]) (by kernel_rfl) (by simp) ?_
      refine (AllReadyH.cons rfl ?_ AllReadyH.nil)
      intro K hK
      refine ready_call rfl (some 45) rfl 13 #[.agg (arrC A), .agg (arrC Y)] (by go_simp) ?_
      refine (FieldMul_to A Y L HL _).mono ?_
      rintro e w24 ⟨rfl, hC⟩
      refine ⟨_, rfl, ?_⟩
      simp only [Act.put, List.setIfInBounds_toArray, List.set_cons_zero, List.set_cons_succ]
      have xh9 : w24.heap[w12.heap.size]? = some (.cells (zL) 22 (0, 0)) := (heap_call hC xh9)
      have hS := hS.call hC
      have hz24 := hC.size
      clear hC
      refine hK.out _ _ hS ?_
      clear hK K
      intro _
      have hSz := hS.size
      refine wpAnyH_ready (rs := [5]) (by kernel_rfl) (by simp) ?_
      refine (AllReadyH.cons rfl ?_ AllReadyH.nil)
      intro K hK
      rw [if_pos (by rfl)]
      refine wp_store_row 22 _ _ rfl (w12.heap.size) (arrC L) rfl rfl 22 (zL) xh9 (info32_of (arrC L) (arrC_size _)) (zL_size.trans (arrC_size _).symm) (arrC_one _) ?_
      refine put_at (none) rfl ?_
      simp only [Act.put, List.setIfInBounds_toArray, List.set_cons_zero, List.set_cons_succ]
      have xh9 : (w24.setRow (w12.heap.size) (arrC L)).heap[w12.heap.size]? = some (.cells (arrC L) 22 (0, 0)) := (setRow_heap _ _ _ _ _ _ xh9)
      have hS := hS.storeNew (arrC L) (show w11.heap.size ≤ w12.heap.size by omega)
      generalize w24.setRow (w12.heap.size) (arrC L) = w25 at *
      refine hK.out _ _ hS ?_
      clear hK K
      intro _
      have hSz := hS.size
      refine wpAnyH_done (by kernel_rfl) ?_ _
      refine NoPanic.normal ?_
      have hsz := hS.size
      have h2 : w25.heap[w.heap.size]? = some (.cells (arrC X) 22 (0, 0)) := hS.old h2 (Nat.ne_of_lt (heap_lt h2))
      have h3 : w25.heap[w.heap.size + 1]? = some (.cells (arrC Y) 22 (0, 0)) := hS.old h3 (Nat.ne_of_lt (heap_lt h3))
      have h5 : w25.heap[w1.heap.size]? = some (.cells (arrC R) 22 (0, 0)) := hS.old h5 (Nat.ne_of_lt (heap_lt h5))
      have h7 : w25.heap[w5.heap.size]? = some (.cells (arrC I) 22 (0, 0)) := hS.old h7 (Nat.ne_of_lt (heap_lt h7))
      have h9 := xh9
      have hBw25 : Hid (Below w.heap.size w w25) := Lib.hid (hBw11.out.trans (hS.below (by omega) hBw11.out.size))
      clear hS
      go_wp2_with fail
      go_meet
      exact ⟨w12.heap.size, rfl, Lib.hid (show w11.heap.size ≤ w12.heap.size by omega), Lib.hid h9, Lib.hid h2, Lib.hid h3, Lib.hid h5, Lib.hid h7, Lib.hid hBw25.out, Lib.hid (show w11.heap.size ≤ w25.heap.size by omega)⟩
  case rest =>
    obtain ⟨g9, rfl, Hg9, Hh9, Hh2, Hh3, Hh5, Hh7, hBw27, Hsz27⟩ := hcut
    obtain ⟨w27, rfl⟩ : ∃ u : World, u = wc := ⟨_, rfl⟩
    have hgl9 := Hg9.out
    have h9 := Hh9.out
    have hgu9 := heap_lt h9
    have h2 := Hh2.out
    have h3 := Hh3.out
    have h5 := Hh5.out
    have h7 := Hh7.out
    have hsz27 := Hsz27.out
    go_wp2_with fail
    refine wp_named ?_
    intro w28 ew28
    have hs28 : w27.heap.size ≤ w28.heap.size := by rw [ew28]; (try simp only [alloc_size, setRow_size]); omega
    replace h2 : w28.heap[w.heap.size]? = some (.cells (arrC X) 22 (0, 0)) := by rw [ew28]; exact h2
    replace h3 : w28.heap[w.heap.size + 1]? = some (.cells (arrC Y) 22 (0, 0)) := by rw [ew28]; exact h3
    replace h5 : w28.heap[w1.heap.size]? = some (.cells (arrC R) 22 (0, 0)) := by rw [ew28]; exact h5
    replace h7 : w28.heap[w5.heap.size]? = some (.cells (arrC I) 22 (0, 0)) := by rw [ew28]; exact h7
    replace h9 : w28.heap[g9]? = some (.cells (arrC L) 22 (0, 0)) := by rw [ew28]; exact h9
    have hBw28 : Hid (Below w.heap.size w w28) := Lib.hid (by rw [ew28]; exact hBw27.out)
    clear ew28
    refine wp_region_noPanic ?_
    refine wp_region_held_drew (S := Keep (w28.heap.size) w28) (by kernel_rfl) (Keep.start _ _) ?_
    intro hS
    obtain ⟨w29, ed⟩ : ∃ u : World, u = w28.drew := ⟨_, rfl⟩
    rw [← ed] at hS ⊢
    have xh2 : w29.heap[w.heap.size]? = some (.cells (arrC X) 22 (0, 0)) := by rw [ed]; exact h2
    have xh3 : w29.heap[w.heap.size + 1]? = some (.cells (arrC Y) 22 (0, 0)) := by rw [ed]; exact h3
    have xh5 : w29.heap[w1.heap.size]? = some (.cells (arrC R) 22 (0, 0)) := by rw [ed]; exact h5
    have xh7 : w29.heap[w5.heap.size]? = some (.cells (arrC I) 22 (0, 0)) := by rw [ed]; exact h7
    have xh9 : w29.heap[g9]? = some (.cells (arrC L) 22 (0, 0)) := by rw [ed]; exact h9
    clear ed
    have hSz := hS.size
    clear xh2
    clear xh3
    clear xh5
    clear xh7
    clear xh9
    refine takeAt (i := 0) (v := .int .i64 0) rfl (some 52) rfl (by kernel_rfl) (by kernel_rfl) (by kernel_rfl) (fun _ _ _ h => h) (take_run rfl (fun _ _ => by go_simp)) hS ?_
    simp only [Act.put, List.setIfInBounds_toArray, List.set_cons_zero, List.set_cons_succ]
    refine takeAt (i := 1) (v := .bool true) rfl (some 53) rfl (by kernel_rfl) (by kernel_rfl) (by kernel_rfl) (fun _ _ _ h => h) (take_run rfl (fun _ _ => by go_simp)) hS ?_
    simp only [Act.put, List.setIfInBounds_toArray, List.set_cons_zero, List.set_cons_succ]
    refine takeAt (i := 2) (v := .bool true) rfl (some 54) rfl (by kernel_rfl) (by kernel_rfl) (by kernel_rfl) (fun _ _ _ h => h) (take_run rfl (fun _ _ => by go_simp)) hS ?_
    simp only [Act.put, List.setIfInBounds_toArray, List.set_cons_zero, List.set_cons_succ]
    refine takeAt (i := 3) (v := .agg (arrC L)) rfl (some 55) rfl (by kernel_rfl) (by kernel_rfl) (by kernel_rfl) (fun _ _ _ h => h) (take_row rfl _ _ rfl (g9) rfl _ _ _ h9 (Nat.ne_of_lt (heap_lt h9)) under32 rfl (info32_of (arrC L) (arrC_size _))) hS ?_
    simp only [Act.put, List.setIfInBounds_toArray, List.set_cons_zero, List.set_cons_succ]
    refine takeAt (i := 4) (v := .agg (arrC I)) rfl (some 56) rfl (by kernel_rfl) (by kernel_rfl) (by kernel_rfl) (fun _ _ _ h => h) (take_row rfl _ _ rfl (w5.heap.size) rfl _ _ _ h7 (Nat.ne_of_lt (heap_lt h7)) under32 rfl (info32_of (arrC I) (arrC_size _))) hS ?_
    simp only [Act.put, List.setIfInBounds_toArray, List.set_cons_zero, List.set_cons_succ]
    refine takeAt (i := 5) (v := .agg (arrC X)) rfl (some 57) rfl (by kernel_rfl) (by kernel_rfl) (by kernel_rfl) (fun _ _ _ h => h) (take_row rfl _ _ rfl (w.heap.size) rfl _ _ _ h2 (Nat.ne_of_lt (heap_lt h2)) under32 rfl (info32_of (arrC X) (arrC_size _))) hS ?_
    simp only [Act.put, List.setIfInBounds_toArray, List.set_cons_zero, List.set_cons_succ]
    refine wpAnyH_ready (rs := [6]) (by kernel_rfl) (by simp) ?_
    refine (AllReadyH.cons rfl ?_ AllReadyH.nil)
    intro K hK
    refine ready_call rfl (some 58) rfl 13 #[.agg (arrC I), .agg (arrC X)] (by go_simp) ?_
    refine (FieldMul_to I X L HIX _).mono ?_
    rintro e w30 ⟨rfl, hC⟩
    refine ⟨_, rfl, ?_⟩
    simp only [Act.put, List.setIfInBounds_toArray, List.set_cons_zero, List.set_cons_succ]
    have hS := hS.call hC
    have hz30 := hC.size
    clear hC
    refine hK.out _ _ hS ?_
    clear hK K
    intro _
    have hSz := hS.size
    refine takeAt (i := 7) (v := .bool true) rfl (some 59) rfl (by kernel_rfl) (by kernel_rfl) (by kernel_rfl) (fun _ _ _ h => h) (take_run rfl (fun _ _ => by go_simp; rw [run_eq_arr _ _ lL lL]; simp)) hS ?_
    simp only [Act.put, List.setIfInBounds_toArray, List.set_cons_zero, List.set_cons_succ]
    refine takeAt (i := 8) (v := .bool true) rfl (some 60) rfl (by kernel_rfl) (by kernel_rfl) (by kernel_rfl) (fun _ _ _ h => h) (take_run rfl (fun _ _ => by go_simp)) hS ?_
    simp only [Act.put, List.setIfInBounds_toArray, List.set_cons_zero, List.set_cons_succ]
    refine takeAt (i := 9) (v := .bool true) rfl (some 4) rfl (by kernel_rfl) (by kernel_rfl) (by kernel_rfl) (fun _ _ _ h => h) (take_run rfl (fun _ _ => by go_simp)) hS ?_
    simp only [Act.put, List.setIfInBounds_toArray, List.set_cons_zero, List.set_cons_succ]
    refine wpAnyH_done (by kernel_rfl) ?_ _
    refine NoPanic.normal ?_
    have hsz := hS.size
    have h2 : w30.heap[w.heap.size]? = some (.cells (arrC X) 22 (0, 0)) := hS.old h2 (Nat.ne_of_lt (heap_lt h2))
    have h3 : w30.heap[w.heap.size + 1]? = some (.cells (arrC Y) 22 (0, 0)) := hS.old h3 (Nat.ne_of_lt (heap_lt h3))
    have h5 : w30.heap[w1.heap.size]? = some (.cells (arrC R) 22 (0, 0)) := hS.old h5 (Nat.ne_of_lt (heap_lt h5))
    have h7 : w30.heap[w5.heap.size]? = some (.cells (arrC I) 22 (0, 0)) := hS.old h7 (Nat.ne_of_lt (heap_lt h7))
    have h9 : w30.heap[g9]? = some (.cells (arrC L) 22 (0, 0)) := hS.old h9 (Nat.ne_of_lt (heap_lt h9))
    have hBw30 : Hid (Below w.heap.size w w30) := Lib.hid (hBw28.out.trans (hS.below (by omega) hBw28.out.size))
    clear hS
    go_wp2
    go_ret
    exact ⟨rfl, hBw30.out⟩

theorem RtSq_walk (X : Nat) (_ : X < 256 ^ 32) (Y : Nat) (_ : Y < 256 ^ 32) (B : Nat) (w : World) (hD0 : Var 1 z5 B w) (hD1 : Var 0 i5 B w) : Calls Tryd.prog 4 #[.agg (arrC X), .agg (arrC Y)] w fun e w' => e = .returned (.bool true) ∧ Below w.heap.size w w' := by
  by_cases h1 : valN Y = 0
  · by_cases h0 : valN X = 0
    · exact RtSq_v1 X Y (Lib.hid ⟨h0, h1⟩) B w hD0 hD1
    · exact RtSq_v0 X Y (Lib.hid ⟨h0, h1⟩) B w hD0 hD1
  · cases h2 : sqW (valN X) (valN Y)
    · exact RtSq_no X Y (Lib.hid ⟨h2, h1⟩) B w hD0 hD1
    · exact RtSq_yes X Y (Lib.hid ⟨h2, h1⟩) B w hD0 hD1

end Go.Proofs.YtmabidcocdflkaaDoor
