/- FnFieldAddGroups: the walk. -/
import Derived.Test.YtfkodiefldljgaaL0
namespace Go.Proofs.Ytfkodiefldljgaa
open Go.RowKit

theorem valN_of_lt (x : Nat) (h : x < pF) : valN x = x := by
  unfold valN
  rw [Nat.mod_eq_of_lt (Nat.lt_trans h (by unfold pF; omega)), Nat.mod_eq_of_lt h]
theorem valN_lt (x : Nat) : valN x < pF := Nat.mod_lt _ pF_pos
theorem mod_lt_p (x : Nat) : x % pF < pF := Nat.mod_lt _ pF_pos
theorem p_lt : pF < 256 ^ 32 := by unfold pF; omega

set_option maxHeartbeats 2000000 in
theorem AddGroups_walk (X Y Z : Nat) (cX cY cZ : Array Value) (eX : Hid (Value.agg cX = arrV X)) (hiX : (Try.prog.info? 22).map (·.size) = some cX.size) (eY : Hid (Value.agg cY = arrV Y)) (hiY : (Try.prog.info? 22).map (·.size) = some cY.size) (eZ : Hid (Value.agg cZ = arrV Z)) (hiZ : (Try.prog.info? 22).map (·.size) = some cZ.size) (w : World) :
    Calls Try.prog 3 #[.agg cX, .agg cY, .agg cZ] w fun e w' => e = .returned (.bool true) ∧ Below w.heap.size w w' := by
  have key : (valN X + valN ((valN Y + valN Z) % pF)) % pF = (valN ((valN X + valN Y) % pF) + valN Z) % pF := by
    rw [valN_of_lt _ (mod_lt_p _), valN_of_lt _ (mod_lt_p _), Nat.add_mod_mod, Nat.mod_add_mod, Nat.add_assoc]
  have key1 : (valN 1 + valN 0) % pF = 1 := by unfold valN pF; omega
  have key := Lib.hid key
  have key1 := Lib.hid key1
  go_enter Try.func3, Try.ntmps3
  go_wp2

  obtain ⟨w0, hw0⟩ : ∃ u : World, u = (((w.alloc (.cells cX 22)).alloc (.cells cY 22)).alloc (.cells cZ 22)) := ⟨_, rfl⟩
  rw [← hw0]
  have hX : w0.heap[w.heap.size]? = some (.cells cX 22 (0, 0)) := by rw [hw0]; exact three_new0 _ _ _ _
  have hY : w0.heap[w.heap.size + 1]? = some (.cells cY 22 (0, 0)) := by rw [hw0]; exact three_new1 _ _ _ _
  have hZ : w0.heap[w.heap.size + 1 + 1]? = some (.cells cZ 22 (0, 0)) := by rw [hw0]; exact three_new2 _ _ _ _
  have hs0 : w0.heap.size = w.heap.size + 1 + 1 + 1 := by rw [hw0, alloc_size, alloc_size, alloc_size]
  have hW0 := Lib.hid (show Below w.heap.size w w0 by rw [hw0]; exact ((((Below.refl _ w).alloc (Nat.le_refl _) _).alloc (by rw [alloc_size]; omega) _).alloc (by rw [alloc_size, alloc_size]; omega) _))
  clear hw0
  have hadd : ∀ (N M : Nat) (w' : World), Below w0.heap.size w0 w' → Calls Try.prog 11 #[arrV N, arrV M] w' fun e w'' => e = .returned (.agg (arrC ((valN N + valN M) % pF))) ∧ Below w0.heap.size w0 w'' := fun N M w' hC =>
    (FieldAdd_any N M w').mono fun e w'' ⟨he, hB⟩ => ⟨he, hC.trans (hB.mono hC.size)⟩
  refine wp_region_quiet (C := Below w0.heap.size w0) (by kernel_rfl) (by kernel_rfl) (Below.refl _ _).drew ?_
  simp only [List.toList_toArray]
  refine wpQuiet_step (fun K hK => ?_); rw [if_pos (by rfl)]
  refine ⟨.agg cX, fun w' hC => quiet_load _ _ rfl w.heap.size rfl _ _ _ hX (by omega) under32 rfl hiX hC, hK _ ?_⟩; clear hK K
  simp only [Act.put, List.setIfInBounds_toArray, List.set_cons_zero, List.set_cons_succ]
  refine wpQuiet_step (fun K hK => ?_); rw [if_pos (by rfl)]
  refine ⟨.agg cY, fun w' hC => quiet_load _ _ rfl (w.heap.size + 1) rfl _ _ _ hY (by omega) under32 rfl hiY hC, hK _ ?_⟩; clear hK K
  simp only [Act.put, List.setIfInBounds_toArray, List.set_cons_zero, List.set_cons_succ]
  refine wpQuiet_step (fun K hK => ?_); rw [if_pos (by rfl)]
  refine ⟨.agg (arrC ((valN X + valN Y) % pF)), fun w' hC => quiet_call 11 #[.agg cX, .agg cY] (by go_simp) (by rw [eX.out, eY.out]; exact hadd X Y w' hC), hK _ ?_⟩; clear hK K
  simp only [Act.put, List.setIfInBounds_toArray, List.set_cons_zero, List.set_cons_succ]
  refine wpQuiet_step (fun K hK => ?_); rw [if_pos (by rfl)]
  refine ⟨.agg cZ, fun w' hC => quiet_load _ _ rfl (w.heap.size + 1 + 1) rfl _ _ _ hZ (by omega) under32 rfl hiZ hC, hK _ ?_⟩; clear hK K
  simp only [Act.put, List.setIfInBounds_toArray, List.set_cons_zero, List.set_cons_succ]
  refine wpQuiet_step (fun K hK => ?_); rw [if_pos (by rfl)]
  refine ⟨.agg (arrC ((valN ((valN X + valN Y) % pF) + valN Z) % pF)), fun w' hC => quiet_call 11 #[.agg (arrC ((valN X + valN Y) % pF)), .agg cZ] (by go_simp) (by rw [eZ.out]; exact hadd _ Z w' hC), hK _ ?_⟩; clear hK K
  simp only [Act.put, List.setIfInBounds_toArray, List.set_cons_zero, List.set_cons_succ]
  refine wpQuiet_step (fun K hK => ?_); rw [if_pos (by rfl)]
  refine ⟨.agg cX, fun w' hC => quiet_load _ _ rfl w.heap.size rfl _ _ _ hX (by omega) under32 rfl hiX hC, hK _ ?_⟩; clear hK K
  simp only [Act.put, List.setIfInBounds_toArray, List.set_cons_zero, List.set_cons_succ]
  refine wpQuiet_step (fun K hK => ?_); rw [if_pos (by rfl)]
  refine ⟨.agg cY, fun w' hC => quiet_load _ _ rfl (w.heap.size + 1) rfl _ _ _ hY (by omega) under32 rfl hiY hC, hK _ ?_⟩; clear hK K
  simp only [Act.put, List.setIfInBounds_toArray, List.set_cons_zero, List.set_cons_succ]
  refine wpQuiet_step (fun K hK => ?_); rw [if_pos (by rfl)]
  refine ⟨.agg cZ, fun w' hC => quiet_load _ _ rfl (w.heap.size + 1 + 1) rfl _ _ _ hZ (by omega) under32 rfl hiZ hC, hK _ ?_⟩; clear hK K
  simp only [Act.put, List.setIfInBounds_toArray, List.set_cons_zero, List.set_cons_succ]
  refine wpQuiet_step (fun K hK => ?_); rw [if_pos (by rfl)]
  refine ⟨.agg (arrC ((valN Y + valN Z) % pF)), fun w' hC => quiet_call 11 #[.agg cY, .agg cZ] (by go_simp) (by rw [eY.out, eZ.out]; exact hadd Y Z w' hC), hK _ ?_⟩; clear hK K
  simp only [Act.put, List.setIfInBounds_toArray, List.set_cons_zero, List.set_cons_succ]
  refine wpQuiet_step (fun K hK => ?_); rw [if_pos (by rfl)]
  refine ⟨.agg (arrC ((valN ((valN X + valN Y) % pF) + valN Z) % pF)), fun w' hC => quiet_call 11 #[.agg cX, .agg (arrC ((valN Y + valN Z) % pF))] (by go_simp) (by rw [eX.out, ← key.out]; exact hadd X _ w' hC), hK _ ?_⟩; clear hK K
  simp only [Act.put, List.setIfInBounds_toArray, List.set_cons_zero, List.set_cons_succ]
  refine wpQuiet_step (fun K hK => ?_); rw [if_pos (by rfl)]
  refine ⟨.bool true, fun w' hC => quiet_run (by go_simp; rw [run_eq_arr _ _ (Nat.lt_trans (mod_lt_p _) p_lt) (Nat.lt_trans (mod_lt_p _) p_lt)]; simp), hK _ ?_⟩; clear hK K
  simp only [Act.put, List.setIfInBounds_toArray, List.set_cons_zero, List.set_cons_succ]
  refine wpQuiet_step (fun K hK => ?_); rw [if_pos (by rfl)]
  refine ⟨.bool true, fun w' hC => quiet_run (by go_simp), hK _ ?_⟩; clear hK K
  simp only [Act.put, List.setIfInBounds_toArray, List.set_cons_zero, List.set_cons_succ]
  refine wpQuiet_step (fun K hK => ?_); rw [if_pos (by rfl)]
  refine ⟨.agg (arrC 1), fun w' hC => quiet_call 12 #[.int .i64 1] (by go_simp) ((number_any 1 (by omega) w').mono fun e w'' ⟨he, hB⟩ => ⟨he, hC.trans (hB.mono hC.size)⟩), hK _ ?_⟩; clear hK K
  simp only [Act.put, List.setIfInBounds_toArray, List.set_cons_zero, List.set_cons_succ]
  refine wpQuiet_step (fun K hK => ?_); rw [if_pos (by rfl)]
  refine ⟨.agg (arrC 0), fun w' hC => quiet_call 13 #[] (by go_simp) ((zero_any w').mono fun e w'' ⟨he, hB⟩ => ⟨he, hC.trans (hB.mono hC.size)⟩), hK _ ?_⟩; clear hK K
  simp only [Act.put, List.setIfInBounds_toArray, List.set_cons_zero, List.set_cons_succ]
  refine wpQuiet_step (fun K hK => ?_); rw [if_pos (by rfl)]
  refine ⟨.agg (arrC 1), fun w' hC => quiet_call 11 #[.agg (arrC 1), .agg (arrC 0)] (by go_simp) (by rw [← key1.out]; exact hadd 1 0 w' hC), hK _ ?_⟩; clear hK K
  simp only [Act.put, List.setIfInBounds_toArray, List.set_cons_zero, List.set_cons_succ]
  refine wpQuiet_step (fun K hK => ?_); rw [if_pos (by rfl)]
  refine ⟨.agg (arrC 1), fun w' hC => quiet_call 12 #[.int .i64 1] (by go_simp) ((number_any 1 (by omega) w').mono fun e w'' ⟨he, hB⟩ => ⟨he, hC.trans (hB.mono hC.size)⟩), hK _ ?_⟩; clear hK K
  simp only [Act.put, List.setIfInBounds_toArray, List.set_cons_zero, List.set_cons_succ]
  refine wpQuiet_step (fun K hK => ?_); rw [if_pos (by rfl)]
  refine ⟨.bool true, fun w' hC => quiet_run (by go_simp; rw [run_eq_arr _ _ (by omega) (by omega)]; simp), hK _ ?_⟩; clear hK K
  simp only [Act.put, List.setIfInBounds_toArray, List.set_cons_zero, List.set_cons_succ]
  refine wpQuiet_step (fun K hK => ?_); rw [if_pos (by rfl)]
  refine ⟨.bool true, fun w' hC => quiet_run (by go_simp), hK _ ?_⟩; clear hK K
  simp only [Act.put, List.setIfInBounds_toArray, List.set_cons_zero, List.set_cons_succ]
  refine wpQuiet_step (fun K hK => ?_); rw [if_pos (by rfl)]
  refine ⟨.bool true, fun w' hC => quiet_run (by go_simp), hK _ ?_⟩; clear hK K
  simp only [Act.put, List.setIfInBounds_toArray, List.set_cons_zero, List.set_cons_succ]
  refine wpQuiet_nil ?_
  intro w' hC
  go_wp2
  go_ret
  exact ⟨rfl, hW0.out.trans (hC.mono (by omega))⟩
end Go.Proofs.Ytfkodiefldljgaa
