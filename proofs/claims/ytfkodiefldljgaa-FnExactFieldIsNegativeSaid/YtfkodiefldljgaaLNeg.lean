/- FnExactFieldIsNegative: the walk. -/
import Derived.Test.YtfkodiefldljgaaF8
import Derived.Test.YtfkodiefldljgaaSNeg
import Derived.Test.YtfkodiefldljgaaL1
namespace Go.Proofs.Ytfkodiefldljgaa
open Go.RowKit

set_option maxHeartbeats 2000000 in
theorem ExactNeg_true (X : Nat) (h : Hid (valN X % 2 = 1)) (w : World) :
    Calls Try.prog 4 #[.agg (arrC X)] w fun e w' => e = .returned (.bool true) ∧ Below w.heap.size w w' := by
  have HZ : Hid ((1 : Int) = ((valN X % 2 : Nat) : Int)) := Lib.hid (by have := h.out; omega)
  go_enter Try.func4, Try.ntmps4
  go_wp2_with fail
  refine wp_named ?_
  intro w1 ew1
  have hs1 : w.heap.size + 1 ≤ w1.heap.size := by rw [ew1]; (try simp only [alloc_size, setRow_size]); omega
  have h1 : w1.heap[w.heap.size]? = some (.cells (arrC X) 22 (0, 0)) := by rw [ew1]; exact (heap_new_at _ _ _ rfl)
  have hB1 : Hid (Below w.heap.size w w1) := Lib.hid (by rw [ew1]; exact (below_alloc (Below.refl _ w) _))
  clear ew1
  refine wp_region_quiet (C := Below w1.heap.size w1) (by kernel_rfl) (by kernel_rfl) (Below.refl _ _).drew ?_
  simp only [List.toList_toArray]
  refine wpQuiet_step (fun K hK => ?_); rw [if_pos (by rfl)]
  refine ⟨.agg (arrC X), fun w' hC => qload _ _ rfl (w.heap.size) rfl _ _ _ h1 under32 rfl (info32_of (arrC X) (arrC_size _)) hC, hK _ ?_⟩; clear hK K
  simp only [Act.put, List.setIfInBounds_toArray, List.set_cons_zero, List.set_cons_succ]
  refine wpQuiet_step (fun K hK => ?_); rw [if_pos (by rfl)]
  refine ⟨.int .i64 1, fun w' hC => qcall 14 #[.agg (arrC X)] (by go_simp) hC (FieldIsNeg_any X w' 1 HZ), hK _ ?_⟩; clear hK K
  simp only [Act.put, List.setIfInBounds_toArray, List.set_cons_zero, List.set_cons_succ]
  refine wpQuiet_step (fun K hK => ?_); rw [if_pos (by rfl)]
  refine ⟨.agg (arrC X), fun w' hC => qload _ _ rfl (w.heap.size) rfl _ _ _ h1 under32 rfl (info32_of (arrC X) (arrC_size _)) hC, hK _ ?_⟩; clear hK K
  simp only [Act.put, List.setIfInBounds_toArray, List.set_cons_zero, List.set_cons_succ]
  refine wpQuiet_step (fun K hK => ?_); rw [if_pos (by rfl)]
  refine ⟨.int .i64 1, fun w' hC => qcall 15 #[.agg (arrC X)] (by go_simp) hC (specNeg_true X h w'), hK _ ?_⟩; clear hK K
  simp only [Act.put, List.setIfInBounds_toArray, List.set_cons_zero, List.set_cons_succ]
  refine wpQuiet_step (fun K hK => ?_); rw [if_pos (by rfl)]
  refine ⟨.bool true, fun w' hC => qrun (by go_simp), hK _ ?_⟩; clear hK K
  simp only [Act.put, List.setIfInBounds_toArray, List.set_cons_zero, List.set_cons_succ]
  refine wpQuiet_step (fun K hK => ?_); rw [if_pos (by rfl)]
  refine ⟨.bool true, fun w' hC => qrun (by go_simp), hK _ ?_⟩; clear hK K
  simp only [Act.put, List.setIfInBounds_toArray, List.set_cons_zero, List.set_cons_succ]
  refine wpQuiet_nil ?_
  intro w2 hC
  have h1 : w2.heap[w.heap.size]? = some (.cells (arrC X) 22 (0, 0)) := (heap_call hC h1)
  have hs2 := hC.size
  have hB2 : Hid (Below w.heap.size w w2) := Lib.hid (below_call hB1.out hC)
  clear hC
  go_wp2
  go_ret
  exact ⟨rfl, hB2.out⟩

set_option maxHeartbeats 2000000 in
theorem ExactNeg_false (X : Nat) (h : Hid (¬ valN X % 2 = 1)) (w : World) :
    Calls Try.prog 4 #[.agg (arrC X)] w fun e w' => e = .returned (.bool true) ∧ Below w.heap.size w w' := by
  have HZ : Hid ((0 : Int) = ((valN X % 2 : Nat) : Int)) := Lib.hid (by have := h.out; omega)
  go_enter Try.func4, Try.ntmps4
  go_wp2_with fail
  refine wp_named ?_
  intro w1 ew1
  have hs1 : w.heap.size + 1 ≤ w1.heap.size := by rw [ew1]; (try simp only [alloc_size, setRow_size]); omega
  have h1 : w1.heap[w.heap.size]? = some (.cells (arrC X) 22 (0, 0)) := by rw [ew1]; exact (heap_new_at _ _ _ rfl)
  have hB1 : Hid (Below w.heap.size w w1) := Lib.hid (by rw [ew1]; exact (below_alloc (Below.refl _ w) _))
  clear ew1
  refine wp_region_quiet (C := Below w1.heap.size w1) (by kernel_rfl) (by kernel_rfl) (Below.refl _ _).drew ?_
  simp only [List.toList_toArray]
  refine wpQuiet_step (fun K hK => ?_); rw [if_pos (by rfl)]
  refine ⟨.agg (arrC X), fun w' hC => qload _ _ rfl (w.heap.size) rfl _ _ _ h1 under32 rfl (info32_of (arrC X) (arrC_size _)) hC, hK _ ?_⟩; clear hK K
  simp only [Act.put, List.setIfInBounds_toArray, List.set_cons_zero, List.set_cons_succ]
  refine wpQuiet_step (fun K hK => ?_); rw [if_pos (by rfl)]
  refine ⟨.int .i64 0, fun w' hC => qcall 14 #[.agg (arrC X)] (by go_simp) hC (FieldIsNeg_any X w' 0 HZ), hK _ ?_⟩; clear hK K
  simp only [Act.put, List.setIfInBounds_toArray, List.set_cons_zero, List.set_cons_succ]
  refine wpQuiet_step (fun K hK => ?_); rw [if_pos (by rfl)]
  refine ⟨.agg (arrC X), fun w' hC => qload _ _ rfl (w.heap.size) rfl _ _ _ h1 under32 rfl (info32_of (arrC X) (arrC_size _)) hC, hK _ ?_⟩; clear hK K
  simp only [Act.put, List.setIfInBounds_toArray, List.set_cons_zero, List.set_cons_succ]
  refine wpQuiet_step (fun K hK => ?_); rw [if_pos (by rfl)]
  refine ⟨.int .i64 0, fun w' hC => qcall 15 #[.agg (arrC X)] (by go_simp) hC (specNeg_false X h w'), hK _ ?_⟩; clear hK K
  simp only [Act.put, List.setIfInBounds_toArray, List.set_cons_zero, List.set_cons_succ]
  refine wpQuiet_step (fun K hK => ?_); rw [if_pos (by rfl)]
  refine ⟨.bool true, fun w' hC => qrun (by go_simp), hK _ ?_⟩; clear hK K
  simp only [Act.put, List.setIfInBounds_toArray, List.set_cons_zero, List.set_cons_succ]
  refine wpQuiet_step (fun K hK => ?_); rw [if_pos (by rfl)]
  refine ⟨.bool true, fun w' hC => qrun (by go_simp), hK _ ?_⟩; clear hK K
  simp only [Act.put, List.setIfInBounds_toArray, List.set_cons_zero, List.set_cons_succ]
  refine wpQuiet_nil ?_
  intro w2 hC
  have h1 : w2.heap[w.heap.size]? = some (.cells (arrC X) 22 (0, 0)) := (heap_call hC h1)
  have hs2 := hC.size
  have hB2 : Hid (Below w.heap.size w w2) := Lib.hid (below_call hB1.out hC)
  clear hC
  go_wp2
  go_ret
  exact ⟨rfl, hB2.out⟩

theorem ExactNeg_walk (X : Nat) (w : World) : Calls Try.prog 4 #[.agg (arrC X)] w fun e w' => e = .returned (.bool true) ∧ Below w.heap.size w w' := by
  by_cases h : valN X % 2 = 1
  · exact ExactNeg_true X h w
  · exact ExactNeg_false X h w

end Go.Proofs.Ytfkodiefldljgaa
