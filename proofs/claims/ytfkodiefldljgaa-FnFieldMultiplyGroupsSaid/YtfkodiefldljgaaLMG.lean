/- FnFieldMultiplyGroups: the walk. -/
import Derived.Test.YtfkodiefldljgaaFM
import Derived.Test.YtfkodiefldljgaaLK
namespace Go.Proofs.Ytfkodiefldljgaa
open Go.RowKit

set_option maxHeartbeats 2000000 in
theorem MultiplyGroups_raw (X Y Z : Nat) (w : World) :
    Calls Try.prog 10 #[.agg (arrC X), .agg (arrC Y), .agg (arrC Z)] w fun e w' => e = .returned (.bool true) ∧ Below w.heap.size w w' := by
  obtain ⟨A, qA⟩ : ∃ u : Nat, u = valN X * valN Y % pF := ⟨_, rfl⟩
  have HA := Lib.hid qA; clear qA
  obtain ⟨B, qB⟩ : ∃ u : Nat, u = valN Y * valN Z % pF := ⟨_, rfl⟩
  have HB := Lib.hid qB; clear qB
  obtain ⟨R, qR⟩ : ∃ u : Nat, u = valN A * valN Z % pF := ⟨_, rfl⟩
  have HR := Lib.hid qR; clear qR
  have HR2 : Hid (R = valN X * valN B % pF) := Lib.hid (by rw [HR.out, HA.out, HB.out, valN_of_lt _ (mod_lt_p _), valN_of_lt _ (mod_lt_p _), Nat.mod_mul_mod, Nat.mul_mod_mod, Nat.mul_assoc])
  have H1 : Hid (1 = valN 1 * valN 1 % pF) := Lib.hid (by unfold valN pF; simp)
  have lR : R < 256 ^ 32 := by rw [HR.out]; exact Nat.lt_trans (mod_lt_p _) p_lt
  go_enter Try.func10, Try.ntmps10
  go_wp2_with fail
  refine wp_named ?_
  intro w1 ew1
  have hs1 : w.heap.size + 1 + 1 + 1 ≤ w1.heap.size := by rw [ew1]; (try simp only [alloc_size, setRow_size]); omega
  replace h3 : w1.heap[w.heap.size]? = some (.cells (arrC X) 22 (0, 0)) := by rw [ew1]; exact (heap_old _ (heap_old _ (heap_new_at _ _ _ rfl)))
  replace h4 : w1.heap[w.heap.size + 1]? = some (.cells (arrC Y) 22 (0, 0)) := by rw [ew1]; exact (heap_old _ (heap_new_at _ _ _ (by simp only [alloc_size, setRow_size])))
  replace h5 : w1.heap[w.heap.size + 1 + 1]? = some (.cells (arrC Z) 22 (0, 0)) := by rw [ew1]; exact (heap_new_at _ _ _ (by simp only [alloc_size, setRow_size]))
  have hBw1 : Hid (Below w.heap.size w w1) := Lib.hid (by rw [ew1]; exact (below_alloc (below_alloc (below_alloc (Below.refl _ w) _) _) _))
  clear ew1
  refine wp_region_quiet (C := Below w1.heap.size w1) (by kernel_rfl) (by kernel_rfl) (Below.refl _ _).drew ?_
  simp only [List.toList_toArray]
  refine wpQuiet_step (fun K hK => ?_); rw [if_pos (by rfl)]
  refine ⟨.agg (arrC X), fun w' hC => qload _ _ rfl (w.heap.size) rfl _ _ _ h3 under32 rfl (info32_of (arrC X) (arrC_size _)) hC, hK _ ?_⟩; clear hK K
  simp only [Act.put, List.setIfInBounds_toArray, List.set_cons_zero, List.set_cons_succ]
  refine wpQuiet_step (fun K hK => ?_); rw [if_pos (by rfl)]
  refine ⟨.agg (arrC Y), fun w' hC => qload _ _ rfl (w.heap.size + 1) rfl _ _ _ h4 under32 rfl (info32_of (arrC Y) (arrC_size _)) hC, hK _ ?_⟩; clear hK K
  simp only [Act.put, List.setIfInBounds_toArray, List.set_cons_zero, List.set_cons_succ]
  refine wpQuiet_step (fun K hK => ?_); rw [if_pos (by rfl)]
  refine ⟨.agg (arrC A), fun w' hC => qcall 25 #[.agg (arrC X), .agg (arrC Y)] (by go_simp) hC (FieldMul_to X Y A HA w'), hK _ ?_⟩; clear hK K
  simp only [Act.put, List.setIfInBounds_toArray, List.set_cons_zero, List.set_cons_succ]
  refine wpQuiet_step (fun K hK => ?_); rw [if_pos (by rfl)]
  refine ⟨.agg (arrC Z), fun w' hC => qload _ _ rfl (w.heap.size + 1 + 1) rfl _ _ _ h5 under32 rfl (info32_of (arrC Z) (arrC_size _)) hC, hK _ ?_⟩; clear hK K
  simp only [Act.put, List.setIfInBounds_toArray, List.set_cons_zero, List.set_cons_succ]
  refine wpQuiet_step (fun K hK => ?_); rw [if_pos (by rfl)]
  refine ⟨.agg (arrC R), fun w' hC => qcall 25 #[.agg (arrC A), .agg (arrC Z)] (by go_simp) hC (FieldMul_to A Z R HR w'), hK _ ?_⟩; clear hK K
  simp only [Act.put, List.setIfInBounds_toArray, List.set_cons_zero, List.set_cons_succ]
  refine wpQuiet_step (fun K hK => ?_); rw [if_pos (by rfl)]
  refine ⟨.agg (arrC X), fun w' hC => qload _ _ rfl (w.heap.size) rfl _ _ _ h3 under32 rfl (info32_of (arrC X) (arrC_size _)) hC, hK _ ?_⟩; clear hK K
  simp only [Act.put, List.setIfInBounds_toArray, List.set_cons_zero, List.set_cons_succ]
  refine wpQuiet_step (fun K hK => ?_); rw [if_pos (by rfl)]
  refine ⟨.agg (arrC Y), fun w' hC => qload _ _ rfl (w.heap.size + 1) rfl _ _ _ h4 under32 rfl (info32_of (arrC Y) (arrC_size _)) hC, hK _ ?_⟩; clear hK K
  simp only [Act.put, List.setIfInBounds_toArray, List.set_cons_zero, List.set_cons_succ]
  refine wpQuiet_step (fun K hK => ?_); rw [if_pos (by rfl)]
  refine ⟨.agg (arrC Z), fun w' hC => qload _ _ rfl (w.heap.size + 1 + 1) rfl _ _ _ h5 under32 rfl (info32_of (arrC Z) (arrC_size _)) hC, hK _ ?_⟩; clear hK K
  simp only [Act.put, List.setIfInBounds_toArray, List.set_cons_zero, List.set_cons_succ]
  refine wpQuiet_step (fun K hK => ?_); rw [if_pos (by rfl)]
  refine ⟨.agg (arrC B), fun w' hC => qcall 25 #[.agg (arrC Y), .agg (arrC Z)] (by go_simp) hC (FieldMul_to Y Z B HB w'), hK _ ?_⟩; clear hK K
  simp only [Act.put, List.setIfInBounds_toArray, List.set_cons_zero, List.set_cons_succ]
  refine wpQuiet_step (fun K hK => ?_); rw [if_pos (by rfl)]
  refine ⟨.agg (arrC R), fun w' hC => qcall 25 #[.agg (arrC X), .agg (arrC B)] (by go_simp) hC (FieldMul_to X B R HR2 w'), hK _ ?_⟩; clear hK K
  simp only [Act.put, List.setIfInBounds_toArray, List.set_cons_zero, List.set_cons_succ]
  refine wpQuiet_step (fun K hK => ?_); rw [if_pos (by rfl)]
  refine ⟨.bool true, fun w' hC => qrun (by go_simp; rw [run_eq_arr _ _ lR lR]; simp), hK _ ?_⟩; clear hK K
  simp only [Act.put, List.setIfInBounds_toArray, List.set_cons_zero, List.set_cons_succ]
  refine wpQuiet_step (fun K hK => ?_); rw [if_pos (by rfl)]
  refine ⟨.bool true, fun w' hC => qrun (by go_simp), hK _ ?_⟩; clear hK K
  simp only [Act.put, List.setIfInBounds_toArray, List.set_cons_zero, List.set_cons_succ]
  refine wpQuiet_step (fun K hK => ?_); rw [if_pos (by rfl)]
  refine ⟨.agg (arrC 1), fun w' hC => qcall 12 #[.int .i64 1] (by go_simp) hC (number_v 1 (by omega) w'), hK _ ?_⟩; clear hK K
  simp only [Act.put, List.setIfInBounds_toArray, List.set_cons_zero, List.set_cons_succ]
  refine wpQuiet_step (fun K hK => ?_); rw [if_pos (by rfl)]
  refine ⟨.agg (arrC 1), fun w' hC => qcall 12 #[.int .i64 1] (by go_simp) hC (number_v 1 (by omega) w'), hK _ ?_⟩; clear hK K
  simp only [Act.put, List.setIfInBounds_toArray, List.set_cons_zero, List.set_cons_succ]
  refine wpQuiet_step (fun K hK => ?_); rw [if_pos (by rfl)]
  refine ⟨.agg (arrC 1), fun w' hC => qcall 25 #[.agg (arrC 1), .agg (arrC 1)] (by go_simp) hC (FieldMul_to 1 1 1 H1 w'), hK _ ?_⟩; clear hK K
  simp only [Act.put, List.setIfInBounds_toArray, List.set_cons_zero, List.set_cons_succ]
  refine wpQuiet_step (fun K hK => ?_); rw [if_pos (by rfl)]
  refine ⟨.agg (arrC 1), fun w' hC => qcall 12 #[.int .i64 1] (by go_simp) hC (number_v 1 (by omega) w'), hK _ ?_⟩; clear hK K
  simp only [Act.put, List.setIfInBounds_toArray, List.set_cons_zero, List.set_cons_succ]
  refine wpQuiet_step (fun K hK => ?_); rw [if_pos (by rfl)]
  refine ⟨.bool true, fun w' hC => qrun (by go_simp; rw [run_eq_arr _ _ (by omega) (by omega)]; simp), hK _ ?_⟩; clear hK K
  simp only [Act.put, List.setIfInBounds_toArray, List.set_cons_zero, List.set_cons_succ]
  refine wpQuiet_step (fun K hK => ?_); rw [if_pos (by rfl)]
  refine ⟨.bool true, fun w' hC => qrun (by go_simp), hK _ ?_⟩; clear hK K
  simp only [Act.put, List.setIfInBounds_toArray, List.set_cons_zero, List.set_cons_succ]
  refine wpQuiet_step (fun K hK => ?_); rw [if_pos (by rfl)]
  refine ⟨.bool true, fun w' hC => qrun (by go_simp), hK _ ?_⟩; clear hK K
  simp only [Act.put, List.setIfInBounds_toArray, List.set_cons_zero, List.set_cons_succ]
  refine wpQuiet_nil ?_
  intro w2 hC
  have hs2 := hC.size
  replace h3 : w2.heap[w.heap.size]? = some (.cells (arrC X) 22 (0, 0)) := (heap_call hC h3)
  replace h4 : w2.heap[w.heap.size + 1]? = some (.cells (arrC Y) 22 (0, 0)) := (heap_call hC h4)
  replace h5 : w2.heap[w.heap.size + 1 + 1]? = some (.cells (arrC Z) 22 (0, 0)) := (heap_call hC h5)
  have hBw2 : Hid (Below w.heap.size w w2) := Lib.hid (below_call hBw1.out hC)
  clear hC
  go_wp2
  go_ret
  exact ⟨rfl, hBw2.out⟩

theorem MultiplyGroups_walk (X : Nat) (_ : X < 256 ^ 32) (Y : Nat) (_ : Y < 256 ^ 32) (Z : Nat) (_ : Z < 256 ^ 32) (w : World) : Calls Try.prog 10 #[.agg (arrC X), .agg (arrC Y), .agg (arrC Z)] w fun e w' => e = .returned (.bool true) ∧ Below w.heap.size w w' := MultiplyGroups_raw X Y Z w

end Go.Proofs.Ytfkodiefldljgaa
