/- FnExactFieldSubtract: the walk. -/
import Derived.Test.YtfkodiefldljgaaF7
import Derived.Test.YtfkodiefldljgaaSSub
import Derived.Test.YtfkodiefldljgaaL1
namespace Go.Proofs.Ytfkodiefldljgaa
open Go.RowKit

theorem FieldSub_to (N M R : Nat) (hR : Hid (R = (valN N + (pF - valN M)) % pF)) (w : World) : Calls Try.prog 19 #[.agg (arrC N), .agg (arrC M)] w fun e w' => e = .returned (.agg (arrC R)) ∧ Below w.heap.size w w' := by
  rw [hR.out]; exact FieldSub_any N M w

set_option maxHeartbeats 2000000 in
theorem ExactSub_walk (X Y : Nat)  (w : World) :
    Calls Try.prog 7 #[.agg (arrC X), .agg (arrC Y)] w fun e w' => e = .returned (.bool true) ∧ Below w.heap.size w w' := by
  obtain ⟨R, qR⟩ : ∃ u : Nat, u = (valN X + (pF - valN Y)) % pF := ⟨_, rfl⟩
  have lR : R < 256 ^ 32 := by rw [qR]; exact Nat.lt_trans (mod_lt_p _) p_lt
  have HR := Lib.hid qR; clear qR
  go_enter Try.func7, Try.ntmps7
  go_wp2_with fail
  refine wp_named ?_
  intro w1 ew1
  have hs1 : w.heap.size + 1 + 1 ≤ w1.heap.size := by rw [ew1]; (try simp only [alloc_size, setRow_size]); omega
  have h2 : w1.heap[w.heap.size]? = some (.cells (arrC X) 22 (0, 0)) := by rw [ew1]; exact (heap_old _ (heap_new_at _ _ _ rfl))
  have h3 : w1.heap[w.heap.size + 1]? = some (.cells (arrC Y) 22 (0, 0)) := by rw [ew1]; exact (heap_new_at _ _ _ (by simp only [alloc_size, setRow_size]))
  have hB1 : Hid (Below w.heap.size w w1) := Lib.hid (by rw [ew1]; exact (below_alloc (below_alloc (Below.refl _ w) _) _))
  clear ew1
  refine wp_region_quiet (C := Below w1.heap.size w1) (by kernel_rfl) (by kernel_rfl) (Below.refl _ _).drew ?_
  simp only [List.toList_toArray]
  refine wpQuiet_step (fun K hK => ?_); rw [if_pos (by rfl)]
  refine ⟨.agg (arrC X), fun w' hC => qload _ _ rfl (w.heap.size) rfl _ _ _ h2 under32 rfl (info32_of (arrC X) (arrC_size _)) hC, hK _ ?_⟩; clear hK K
  simp only [Act.put, List.setIfInBounds_toArray, List.set_cons_zero, List.set_cons_succ]
  refine wpQuiet_step (fun K hK => ?_); rw [if_pos (by rfl)]
  refine ⟨.agg (arrC Y), fun w' hC => qload _ _ rfl (w.heap.size + 1) rfl _ _ _ h3 under32 rfl (info32_of (arrC Y) (arrC_size _)) hC, hK _ ?_⟩; clear hK K
  simp only [Act.put, List.setIfInBounds_toArray, List.set_cons_zero, List.set_cons_succ]
  refine wpQuiet_step (fun K hK => ?_); rw [if_pos (by rfl)]
  refine ⟨.agg (arrC R), fun w' hC => qcall 19 #[.agg (arrC X), .agg (arrC Y)] (by go_simp) hC (FieldSub_to X Y R HR w'), hK _ ?_⟩; clear hK K
  simp only [Act.put, List.setIfInBounds_toArray, List.set_cons_zero, List.set_cons_succ]
  refine wpQuiet_step (fun K hK => ?_); rw [if_pos (by rfl)]
  refine ⟨.agg (arrC X), fun w' hC => qload _ _ rfl (w.heap.size) rfl _ _ _ h2 under32 rfl (info32_of (arrC X) (arrC_size _)) hC, hK _ ?_⟩; clear hK K
  simp only [Act.put, List.setIfInBounds_toArray, List.set_cons_zero, List.set_cons_succ]
  refine wpQuiet_step (fun K hK => ?_); rw [if_pos (by rfl)]
  refine ⟨.agg (arrC Y), fun w' hC => qload _ _ rfl (w.heap.size + 1) rfl _ _ _ h3 under32 rfl (info32_of (arrC Y) (arrC_size _)) hC, hK _ ?_⟩; clear hK K
  simp only [Act.put, List.setIfInBounds_toArray, List.set_cons_zero, List.set_cons_succ]
  refine wpQuiet_step (fun K hK => ?_); rw [if_pos (by rfl)]
  refine ⟨.agg (arrC R), fun w' hC => qcall 20 #[.agg (arrC X), .agg (arrC Y)] (by go_simp) hC (specSub_raw X Y R HR w'), hK _ ?_⟩; clear hK K
  simp only [Act.put, List.setIfInBounds_toArray, List.set_cons_zero, List.set_cons_succ]
  refine wpQuiet_step (fun K hK => ?_); rw [if_pos (by rfl)]
  refine ⟨.bool true, fun w' hC => qrun (by go_simp; rw [run_eq_arr _ _ lR lR]; simp), hK _ ?_⟩; clear hK K
  simp only [Act.put, List.setIfInBounds_toArray, List.set_cons_zero, List.set_cons_succ]
  refine wpQuiet_step (fun K hK => ?_); rw [if_pos (by rfl)]
  refine ⟨.bool true, fun w' hC => qrun (by go_simp), hK _ ?_⟩; clear hK K
  simp only [Act.put, List.setIfInBounds_toArray, List.set_cons_zero, List.set_cons_succ]
  refine wpQuiet_nil ?_
  intro w2 hC
  have h2 : w2.heap[w.heap.size]? = some (.cells (arrC X) 22 (0, 0)) := (heap_call hC h2)
  have h3 : w2.heap[w.heap.size + 1]? = some (.cells (arrC Y) 22 (0, 0)) := (heap_call hC h3)
  have hs2 := hC.size
  have hB2 : Hid (Below w.heap.size w w2) := Lib.hid (below_call hB1.out hC)
  clear hC
  go_wp2
  go_ret
  exact ⟨rfl, hB2.out⟩

end Go.Proofs.Ytfkodiefldljgaa
