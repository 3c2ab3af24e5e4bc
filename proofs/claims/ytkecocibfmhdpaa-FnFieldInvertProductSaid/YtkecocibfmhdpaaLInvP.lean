/- FnFieldInvertProduct: the walk. -/
import Derived.Test.YtkecocibfmhdpaaFI
import Derived.Test.YtkecocibfmhdpaaFM
import Derived.Test.YtkecocibfmhdpaaLI0
set_option linter.unusedSimpArgs false
set_option linter.unusedVariables false
namespace Go.Proofs.Ytkecocibfmhdpaa
open Go.RowKit

set_option maxHeartbeats 1000000 in
theorem InvP_walk (X : Nat) (bX : X < 256 ^ 32) (Y : Nat) (bY : Y < 256 ^ 32) (w : World) :
    Calls Try.prog 7 #[.agg (arrC X), .agg (arrC Y)] w fun e w' => e = .returned (.bool true) ∧ Below w.heap.size w w' := by
  obtain ⟨A, qA⟩ : ∃ u : Nat, u = valN X * valN Y % pF := ⟨_, rfl⟩
  have HA := Lib.hid qA; clear qA
  obtain ⟨R, qR⟩ : ∃ u : Nat, u = xp (valN A) 57896044618658097711785492504343953926634992332820282019728792003956564819947 := ⟨_, rfl⟩
  have HR := Lib.hid qR; clear qR
  obtain ⟨I, qI⟩ : ∃ u : Nat, u = xp (valN X) 57896044618658097711785492504343953926634992332820282019728792003956564819947 := ⟨_, rfl⟩
  have HI := Lib.hid qI; clear qI
  obtain ⟨J, qJ⟩ : ∃ u : Nat, u = xp (valN Y) 57896044618658097711785492504343953926634992332820282019728792003956564819947 := ⟨_, rfl⟩
  have HJ := Lib.hid qJ; clear qJ
  have HR2 : Hid (R = valN I * valN J % pF) := Lib.hid (by rw [HR.out, vl (x := A) (by rw [HA.out]; exact mod_lt_p _), HA.out, vl (x := I) (by rw [HI.out]; exact xp_lt _ _), vl (x := J) (by rw [HJ.out]; exact xp_lt _ _), HI.out, HJ.out]; exact xp_base_mul _ _ _)
  have H1 : Hid (1 = xp (valN 1) 57896044618658097711785492504343953926634992332820282019728792003956564819947) := Lib.hid (by rw [v1, xp_base1])
  have lR : R < 256 ^ 32 := by rw [HR.out]; exact Nat.lt_trans (xp_lt _ _) p_lt
  go_enter Try.func7, Try.ntmps7
  go_wp2_with fail
  refine wp_named ?_
  intro w1 ew1
  have hs1 : w.heap.size + 1 + 1 ≤ w1.heap.size := by rw [ew1]; (try simp only [alloc_size, setRow_size]); omega
  replace h2 : w1.heap[w.heap.size]? = some (.cells (arrC X) 22 (0, 0)) := by rw [ew1]; exact (heap_old _ (heap_new_at _ _ _ rfl))
  replace h3 : w1.heap[w.heap.size + 1]? = some (.cells (arrC Y) 22 (0, 0)) := by rw [ew1]; exact (heap_new_at _ _ _ (by simp only [alloc_size, setRow_size]))
  have hBw1 : Hid (Below w.heap.size w w1) := Lib.hid (by rw [ew1]; exact (below_alloc (below_alloc (Below.refl _ w) _) _))
  clear ew1
  refine wp_region_quiet (C := Below w1.heap.size w1) (by kernel_rfl) (by kernel_rfl) (Below.refl _ _).drew ?_
  simp only [List.toList_toArray]
  refine wpQuiet_step (fun K hK => ?_); rw [if_pos (by rfl)]
  refine ⟨.agg (arrC X), fun w' hC => qload _ _ rfl (w.heap.size) rfl _ _ _ h2 under32 rfl (info32_of (arrC X) (arrC_size _)) hC, hK _ ?_⟩; clear hK K
  simp only [Act.put, List.setIfInBounds_toArray, List.set_cons_zero, List.set_cons_succ]
  refine wpQuiet_step (fun K hK => ?_); rw [if_pos (by rfl)]
  refine ⟨.agg (arrC Y), fun w' hC => qload _ _ rfl (w.heap.size + 1) rfl _ _ _ h3 under32 rfl (info32_of (arrC Y) (arrC_size _)) hC, hK _ ?_⟩; clear hK K
  simp only [Act.put, List.setIfInBounds_toArray, List.set_cons_zero, List.set_cons_succ]
  refine wpQuiet_step (fun K hK => ?_); rw [if_pos (by rfl)]
  refine ⟨.agg (arrC A), fun w' hC => qcall 14 #[.agg (arrC X), .agg (arrC Y)] (by go_simp) hC (FieldMul_to X Y A HA w'), hK _ ?_⟩; clear hK K
  simp only [Act.put, List.setIfInBounds_toArray, List.set_cons_zero, List.set_cons_succ]
  refine wpQuiet_step (fun K hK => ?_); rw [if_pos (by rfl)]
  refine ⟨.agg (arrC R), fun w' hC => qcall 20 #[.agg (arrC A)] (by go_simp) hC (FieldInv_to A R HR w'), hK _ ?_⟩; clear hK K
  simp only [Act.put, List.setIfInBounds_toArray, List.set_cons_zero, List.set_cons_succ]
  refine wpQuiet_step (fun K hK => ?_); rw [if_pos (by rfl)]
  refine ⟨.agg (arrC X), fun w' hC => qload _ _ rfl (w.heap.size) rfl _ _ _ h2 under32 rfl (info32_of (arrC X) (arrC_size _)) hC, hK _ ?_⟩; clear hK K
  simp only [Act.put, List.setIfInBounds_toArray, List.set_cons_zero, List.set_cons_succ]
  refine wpQuiet_step (fun K hK => ?_); rw [if_pos (by rfl)]
  refine ⟨.agg (arrC I), fun w' hC => qcall 20 #[.agg (arrC X)] (by go_simp) hC (FieldInv_to X I HI w'), hK _ ?_⟩; clear hK K
  simp only [Act.put, List.setIfInBounds_toArray, List.set_cons_zero, List.set_cons_succ]
  refine wpQuiet_step (fun K hK => ?_); rw [if_pos (by rfl)]
  refine ⟨.agg (arrC Y), fun w' hC => qload _ _ rfl (w.heap.size + 1) rfl _ _ _ h3 under32 rfl (info32_of (arrC Y) (arrC_size _)) hC, hK _ ?_⟩; clear hK K
  simp only [Act.put, List.setIfInBounds_toArray, List.set_cons_zero, List.set_cons_succ]
  refine wpQuiet_step (fun K hK => ?_); rw [if_pos (by rfl)]
  refine ⟨.agg (arrC J), fun w' hC => qcall 20 #[.agg (arrC Y)] (by go_simp) hC (FieldInv_to Y J HJ w'), hK _ ?_⟩; clear hK K
  simp only [Act.put, List.setIfInBounds_toArray, List.set_cons_zero, List.set_cons_succ]
  refine wpQuiet_step (fun K hK => ?_); rw [if_pos (by rfl)]
  refine ⟨.agg (arrC R), fun w' hC => qcall 14 #[.agg (arrC I), .agg (arrC J)] (by go_simp) hC (FieldMul_to I J R HR2 w'), hK _ ?_⟩; clear hK K
  simp only [Act.put, List.setIfInBounds_toArray, List.set_cons_zero, List.set_cons_succ]
  refine wpQuiet_step (fun K hK => ?_); rw [if_pos (by rfl)]
  refine ⟨.bool true, fun w' hC => qrun (by go_simp; rw [run_eq_arr _ _ lR lR]; simp), hK _ ?_⟩; clear hK K
  simp only [Act.put, List.setIfInBounds_toArray, List.set_cons_zero, List.set_cons_succ]
  refine wpQuiet_step (fun K hK => ?_); rw [if_pos (by rfl)]
  refine ⟨.bool true, fun w' hC => qrun (by go_simp), hK _ ?_⟩; clear hK K
  simp only [Act.put, List.setIfInBounds_toArray, List.set_cons_zero, List.set_cons_succ]
  refine wpQuiet_step (fun K hK => ?_); rw [if_pos (by rfl)]
  refine ⟨.agg (arrC 1), fun w' hC => qcall 15 #[.int .i64 1] (by go_simp) hC (number_v 1 (by omega) w'), hK _ ?_⟩; clear hK K
  simp only [Act.put, List.setIfInBounds_toArray, List.set_cons_zero, List.set_cons_succ]
  refine wpQuiet_step (fun K hK => ?_); rw [if_pos (by rfl)]
  refine ⟨.agg (arrC 1), fun w' hC => qcall 20 #[.agg (arrC 1)] (by go_simp) hC (FieldInv_to 1 1 H1 w'), hK _ ?_⟩; clear hK K
  simp only [Act.put, List.setIfInBounds_toArray, List.set_cons_zero, List.set_cons_succ]
  refine wpQuiet_step (fun K hK => ?_); rw [if_pos (by rfl)]
  refine ⟨.agg (arrC 1), fun w' hC => qcall 15 #[.int .i64 1] (by go_simp) hC (number_v 1 (by omega) w'), hK _ ?_⟩; clear hK K
  simp only [Act.put, List.setIfInBounds_toArray, List.set_cons_zero, List.set_cons_succ]
  refine wpQuiet_step (fun K hK => ?_); rw [if_pos (by rfl)]
  refine ⟨.bool true, fun w' hC => qrun (by go_simp; rw [run_eq_arr _ _ (by omega) (by omega)]; simp), hK _ ?_⟩; clear hK K
  simp only [Act.put, List.setIfInBounds_toArray, List.set_cons_zero, List.set_cons_succ]
  refine wpQuiet_step (fun K hK => ?_); rw [if_pos (by rfl)]
  refine ⟨.bool true, fun w' hC => qrun (by go_simp), hK _ ?_⟩; clear hK K
  simp only [Act.put, List.setIfInBounds_toArray, List.set_cons_zero, List.set_cons_succ]
  refine wpQuiet_step (fun K hK => ?_); rw [if_pos (by rfl)]
  refine ⟨.bool true, fun w' hC => qrun (by go_simp), hK _ ?_⟩; clear hK K
  simp only [Act.put, List.setIfInBounds_toArray, List.set_cons_zero, List.set_cons_succ]
  refine wpQuiet_nil ?_
  intro w2 hC
  have hs2 := hC.size
  replace h2 : w2.heap[w.heap.size]? = some (.cells (arrC X) 22 (0, 0)) := (heap_call hC h2)
  replace h3 : w2.heap[w.heap.size + 1]? = some (.cells (arrC Y) 22 (0, 0)) := (heap_call hC h3)
  have hBw2 : Hid (Below w.heap.size w w2) := Lib.hid (below_call hBw1.out hC)
  clear hC
  go_wp2
  go_ret
  exact ⟨rfl, hBw2.out⟩

end Go.Proofs.Ytkecocibfmhdpaa
