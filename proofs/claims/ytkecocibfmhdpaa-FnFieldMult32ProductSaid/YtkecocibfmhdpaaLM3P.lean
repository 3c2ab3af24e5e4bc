/- FnFieldMult32Product: the walk. -/
import Derived.Test.YtkecocibfmhdpaaFM
import Derived.Test.YtkecocibfmhdpaaFM32
import Derived.Test.YtkecocibfmhdpaaLI0
import Derived.Test.YtkecocibfmhdpaaLK2
set_option linter.unusedSimpArgs false
set_option linter.unusedVariables false
namespace Go.Proofs.Ytkecocibfmhdpaa
open Go.RowKit

theorem m32p_eq (x y z : Nat) : (x * y % pF + x * z % pF) % pF = x * (y + z) % pF := by
  rw [Nat.mul_add, ← Nat.add_mod]

set_option maxHeartbeats 2000000 in
theorem M32P_big (X Y Z : Nat) (bY : Y < 4294967296) (bZ : Z < 4294967296) (h : (4294967295 : Int) < (Y : Int) + (Z : Int)) (w : World) :
    Calls Try.prog 4 #[.agg (arrC X), .int .u32 (Y : Int), .int .u32 (Z : Int)] w fun e w' => e = .returned (.bool true) ∧ Below w.heap.size w w' := by
  obtain ⟨R, qR⟩ : ∃ u : Nat, u = valN X * Y % pF := ⟨_, rfl⟩
  have HR := Lib.hid qR; clear qR
  have HM : Hid (R = valN X * valN Y % pF) := Lib.hid (by rw [vl (x := Y) (by unfold pF; omega)]; exact HR.out)
  have H1 : Hid (1 = valN 1 * 1 % pF) := Lib.hid (by rw [v1]; unfold pF; simp)
  have lR : R < 256 ^ 32 := by rw [HR.out]; exact Nat.lt_trans (mod_lt_p _) p_lt
  go_enter Try.func4, Try.ntmps4
  have hcv : IntKind.i64.wrap (Y : Int) = (Y : Int) := by rw [IntKind.wrap_i64]; omega
  go_wp2_with fail
  refine wp_named ?_
  intro w1 ew1
  have hs1 : w.heap.size + 1 ≤ w1.heap.size := by rw [ew1]; (try simp only [alloc_size, setRow_size]); omega
  replace h3 : w1.heap[w.heap.size]? = some (.cells (arrC X) 22 (0, 0)) := by rw [ew1]; exact (heap_new_at _ _ _ rfl)
  have hBw1 : Hid (Below w.heap.size w w1) := Lib.hid (by rw [ew1]; exact (below_alloc (Below.refl _ w) _))
  clear ew1
  refine wp_region_quiet (C := Below w1.heap.size w1) (by kernel_rfl) (by kernel_rfl) (Below.refl _ _).drew ?_
  simp only [List.toList_toArray]
  refine wpQuiet_step (fun K hK => ?_); rw [if_pos (by rfl)]
  refine ⟨.agg (arrC X), fun w' hC => qload _ _ rfl (w.heap.size) rfl _ _ _ h3 under32 rfl (info32_of (arrC X) (arrC_size _)) hC, hK _ ?_⟩; clear hK K
  simp only [Act.put, List.setIfInBounds_toArray, List.set_cons_zero, List.set_cons_succ]
  refine wpQuiet_step (fun K hK => ?_); rw [if_pos (by rfl)]
  refine ⟨.int .u32 (Y : Int), fun w' hC => qrun (by go_simp), hK _ ?_⟩; clear hK K
  simp only [Act.put, List.setIfInBounds_toArray, List.set_cons_zero, List.set_cons_succ]
  refine wpQuiet_step (fun K hK => ?_); rw [if_pos (by rfl)]
  refine ⟨.agg (arrC R), fun w' hC => qcall 16 #[.agg (arrC X), .int .u32 (Y : Int)] (by go_simp) hC (FieldMult32_to X Y R bY HR w'), hK _ ?_⟩; clear hK K
  simp only [Act.put, List.setIfInBounds_toArray, List.set_cons_zero, List.set_cons_succ]
  refine wpQuiet_step (fun K hK => ?_); rw [if_pos (by rfl)]
  refine ⟨.agg (arrC X), fun w' hC => qload _ _ rfl (w.heap.size) rfl _ _ _ h3 under32 rfl (info32_of (arrC X) (arrC_size _)) hC, hK _ ?_⟩; clear hK K
  simp only [Act.put, List.setIfInBounds_toArray, List.set_cons_zero, List.set_cons_succ]
  refine wpQuiet_step (fun K hK => ?_); rw [if_pos (by rfl)]
  refine ⟨.int .u32 (Y : Int), fun w' hC => qrun (by go_simp), hK _ ?_⟩; clear hK K
  simp only [Act.put, List.setIfInBounds_toArray, List.set_cons_zero, List.set_cons_succ]
  refine wpQuiet_step (fun K hK => ?_); rw [if_pos (by rfl)]
  refine ⟨.int .i64 (Y : Int), fun w' hC => qrun (by go_simp), hK _ ?_⟩; clear hK K
  simp only [Act.put, List.setIfInBounds_toArray, List.set_cons_zero, List.set_cons_succ]
  refine wpQuiet_step (fun K hK => ?_); rw [if_pos (by rfl)]
  refine ⟨.agg (arrC Y), fun w' hC => qcall 15 #[.int .i64 (Y : Int)] (by go_simp) hC (number_v Y (by omega) w'), hK _ ?_⟩; clear hK K
  simp only [Act.put, List.setIfInBounds_toArray, List.set_cons_zero, List.set_cons_succ]
  refine wpQuiet_step (fun K hK => ?_); rw [if_pos (by rfl)]
  refine ⟨.agg (arrC R), fun w' hC => qcall 14 #[.agg (arrC X), .agg (arrC Y)] (by go_simp) hC (FieldMul_to X Y R HM w'), hK _ ?_⟩; clear hK K
  simp only [Act.put, List.setIfInBounds_toArray, List.set_cons_zero, List.set_cons_succ]
  refine wpQuiet_step (fun K hK => ?_); rw [if_pos (by rfl)]
  refine ⟨.bool false, fun w' hC => qrun (by go_simp; rw [run_eq_arr _ _ lR lR]; simp), hK _ ?_⟩; clear hK K
  simp only [Act.put, List.setIfInBounds_toArray, List.set_cons_zero, List.set_cons_succ]
  refine wpQuiet_step (fun K hK => ?_); rw [if_pos (by rfl)]
  refine ⟨.bool false, fun w' hC => qrun (by go_simp), hK _ ?_⟩; clear hK K
  simp only [Act.put, List.setIfInBounds_toArray, List.set_cons_zero, List.set_cons_succ]
  refine wpQuiet_step (fun K hK => ?_); rw [if_pos (by rfl)]
  refine ⟨.agg (arrC 1), fun w' hC => qcall 15 #[.int .i64 1] (by go_simp) hC (number_v 1 (by omega) w'), hK _ ?_⟩; clear hK K
  simp only [Act.put, List.setIfInBounds_toArray, List.set_cons_zero, List.set_cons_succ]
  refine wpQuiet_step (fun K hK => ?_); rw [if_pos (by rfl)]
  refine ⟨.agg (arrC 1), fun w' hC => qcall 16 #[.agg (arrC 1), .int .u32 1] (by go_simp) hC (FieldMult32_to 1 1 1 (by omega) H1 w'), hK _ ?_⟩; clear hK K
  simp only [Act.put, List.setIfInBounds_toArray, List.set_cons_zero, List.set_cons_succ]
  refine wpQuiet_step (fun K hK => ?_); rw [if_pos (by rfl)]
  refine ⟨.agg (arrC 1), fun w' hC => qcall 15 #[.int .i64 1] (by go_simp) hC (number_v 1 (by omega) w'), hK _ ?_⟩; clear hK K
  simp only [Act.put, List.setIfInBounds_toArray, List.set_cons_zero, List.set_cons_succ]
  refine wpQuiet_step (fun K hK => ?_); rw [if_pos (by rfl)]
  refine ⟨.bool false, fun w' hC => qrun (by go_simp; rw [run_eq_arr _ _ (by omega) (by omega)]; simp), hK _ ?_⟩; clear hK K
  simp only [Act.put, List.setIfInBounds_toArray, List.set_cons_zero, List.set_cons_succ]
  refine wpQuiet_step (fun K hK => ?_); rw [if_pos (by rfl)]
  refine ⟨.bool false, fun w' hC => qrun (by go_simp), hK _ ?_⟩; clear hK K
  simp only [Act.put, List.setIfInBounds_toArray, List.set_cons_zero, List.set_cons_succ]
  refine wpQuiet_nil ?_
  intro w2 hC
  have hs2 := hC.size
  replace h3 : w2.heap[w.heap.size]? = some (.cells (arrC X) 22 (0, 0)) := (heap_call hC h3)
  have hBw2 : Hid (Below w.heap.size w w2) := Lib.hid (below_call hBw1.out hC)
  clear hC
  go_wp2
  go_ret
  exact ⟨rfl, hBw2.out⟩

set_option maxHeartbeats 2000000 in
theorem M32P_small (X Y Z : Nat) (bY : Y < 4294967296) (bZ : Z < 4294967296) (h : (Y : Int) + (Z : Int) ≤ 4294967295) (w : World) :
    Calls Try.prog 4 #[.agg (arrC X), .int .u32 (Y : Int), .int .u32 (Z : Int)] w fun e w' => e = .returned (.bool true) ∧ Below w.heap.size w w' := by
  obtain ⟨R, qR⟩ : ∃ u : Nat, u = valN X * Y % pF := ⟨_, rfl⟩
  have HR := Lib.hid qR; clear qR
  have HM : Hid (R = valN X * valN Y % pF) := Lib.hid (by rw [vl (x := Y) (by unfold pF; omega)]; exact HR.out)
  have H1 : Hid (1 = valN 1 * 1 % pF) := Lib.hid (by rw [v1]; unfold pF; simp)
  have lR : R < 256 ^ 32 := by rw [HR.out]; exact Nat.lt_trans (mod_lt_p _) p_lt
  obtain ⟨Q, qQ⟩ : ∃ u : Nat, u = valN X * Z % pF := ⟨_, rfl⟩
  have HQ := Lib.hid qQ; clear qQ
  obtain ⟨N, qN⟩ : ∃ u : Nat, u = Y + Z := ⟨_, rfl⟩
  have bN : N < 4294967296 := by omega
  obtain ⟨T, qT⟩ : ∃ u : Nat, u = (valN R + valN Q) % pF := ⟨_, rfl⟩
  have HT := Lib.hid qT; clear qT
  have HT2 : Hid (T = valN X * N % pF) := Lib.hid (by rw [HT.out, vl (x := R) (by rw [HR.out]; exact mod_lt_p _), vl (x := Q) (by rw [HQ.out]; exact mod_lt_p _), HR.out, HQ.out, qN]; exact m32p_eq _ _ _)
  have lT : T < 256 ^ 32 := by rw [HT.out]; exact Nat.lt_trans (mod_lt_p _) p_lt
  have HN := Lib.hid qN; clear qN
  go_enter Try.func4, Try.ntmps4
  have hcv : IntKind.i64.wrap (Y : Int) = (Y : Int) := by rw [IntKind.wrap_i64]; omega
  go_wp2_with fail
  refine wp_named ?_
  intro w1 ew1
  have hs1 : w.heap.size + 1 ≤ w1.heap.size := by rw [ew1]; (try simp only [alloc_size, setRow_size]); omega
  replace h3 : w1.heap[w.heap.size]? = some (.cells (arrC X) 22 (0, 0)) := by rw [ew1]; exact (heap_new_at _ _ _ rfl)
  have hBw1 : Hid (Below w.heap.size w w1) := Lib.hid (by rw [ew1]; exact (below_alloc (Below.refl _ w) _))
  clear ew1
  refine wp_region_quiet (C := Below w1.heap.size w1) (by kernel_rfl) (by kernel_rfl) (Below.refl _ _).drew ?_
  simp only [List.toList_toArray]
  refine wpQuiet_step (fun K hK => ?_); rw [if_pos (by rfl)]
  refine ⟨.agg (arrC X), fun w' hC => qload _ _ rfl (w.heap.size) rfl _ _ _ h3 under32 rfl (info32_of (arrC X) (arrC_size _)) hC, hK _ ?_⟩; clear hK K
  simp only [Act.put, List.setIfInBounds_toArray, List.set_cons_zero, List.set_cons_succ]
  refine wpQuiet_step (fun K hK => ?_); rw [if_pos (by rfl)]
  refine ⟨.int .u32 (Y : Int), fun w' hC => qrun (by go_simp), hK _ ?_⟩; clear hK K
  simp only [Act.put, List.setIfInBounds_toArray, List.set_cons_zero, List.set_cons_succ]
  refine wpQuiet_step (fun K hK => ?_); rw [if_pos (by rfl)]
  refine ⟨.agg (arrC R), fun w' hC => qcall 16 #[.agg (arrC X), .int .u32 (Y : Int)] (by go_simp) hC (FieldMult32_to X Y R bY HR w'), hK _ ?_⟩; clear hK K
  simp only [Act.put, List.setIfInBounds_toArray, List.set_cons_zero, List.set_cons_succ]
  refine wpQuiet_step (fun K hK => ?_); rw [if_pos (by rfl)]
  refine ⟨.agg (arrC X), fun w' hC => qload _ _ rfl (w.heap.size) rfl _ _ _ h3 under32 rfl (info32_of (arrC X) (arrC_size _)) hC, hK _ ?_⟩; clear hK K
  simp only [Act.put, List.setIfInBounds_toArray, List.set_cons_zero, List.set_cons_succ]
  refine wpQuiet_step (fun K hK => ?_); rw [if_pos (by rfl)]
  refine ⟨.int .u32 (Y : Int), fun w' hC => qrun (by go_simp), hK _ ?_⟩; clear hK K
  simp only [Act.put, List.setIfInBounds_toArray, List.set_cons_zero, List.set_cons_succ]
  refine wpQuiet_step (fun K hK => ?_); rw [if_pos (by rfl)]
  refine ⟨.int .i64 (Y : Int), fun w' hC => qrun (by go_simp), hK _ ?_⟩; clear hK K
  simp only [Act.put, List.setIfInBounds_toArray, List.set_cons_zero, List.set_cons_succ]
  refine wpQuiet_step (fun K hK => ?_); rw [if_pos (by rfl)]
  refine ⟨.agg (arrC Y), fun w' hC => qcall 15 #[.int .i64 (Y : Int)] (by go_simp) hC (number_v Y (by omega) w'), hK _ ?_⟩; clear hK K
  simp only [Act.put, List.setIfInBounds_toArray, List.set_cons_zero, List.set_cons_succ]
  refine wpQuiet_step (fun K hK => ?_); rw [if_pos (by rfl)]
  refine ⟨.agg (arrC R), fun w' hC => qcall 14 #[.agg (arrC X), .agg (arrC Y)] (by go_simp) hC (FieldMul_to X Y R HM w'), hK _ ?_⟩; clear hK K
  simp only [Act.put, List.setIfInBounds_toArray, List.set_cons_zero, List.set_cons_succ]
  refine wpQuiet_step (fun K hK => ?_); rw [if_pos (by rfl)]
  refine ⟨.bool false, fun w' hC => qrun (by go_simp; rw [run_eq_arr _ _ lR lR]; simp), hK _ ?_⟩; clear hK K
  simp only [Act.put, List.setIfInBounds_toArray, List.set_cons_zero, List.set_cons_succ]
  refine wpQuiet_step (fun K hK => ?_); rw [if_pos (by rfl)]
  refine ⟨.bool false, fun w' hC => qrun (by go_simp), hK _ ?_⟩; clear hK K
  simp only [Act.put, List.setIfInBounds_toArray, List.set_cons_zero, List.set_cons_succ]
  refine wpQuiet_step (fun K hK => ?_); rw [if_pos (by rfl)]
  refine ⟨.agg (arrC 1), fun w' hC => qcall 15 #[.int .i64 1] (by go_simp) hC (number_v 1 (by omega) w'), hK _ ?_⟩; clear hK K
  simp only [Act.put, List.setIfInBounds_toArray, List.set_cons_zero, List.set_cons_succ]
  refine wpQuiet_step (fun K hK => ?_); rw [if_pos (by rfl)]
  refine ⟨.agg (arrC 1), fun w' hC => qcall 16 #[.agg (arrC 1), .int .u32 1] (by go_simp) hC (FieldMult32_to 1 1 1 (by omega) H1 w'), hK _ ?_⟩; clear hK K
  simp only [Act.put, List.setIfInBounds_toArray, List.set_cons_zero, List.set_cons_succ]
  refine wpQuiet_step (fun K hK => ?_); rw [if_pos (by rfl)]
  refine ⟨.agg (arrC 1), fun w' hC => qcall 15 #[.int .i64 1] (by go_simp) hC (number_v 1 (by omega) w'), hK _ ?_⟩; clear hK K
  simp only [Act.put, List.setIfInBounds_toArray, List.set_cons_zero, List.set_cons_succ]
  refine wpQuiet_step (fun K hK => ?_); rw [if_pos (by rfl)]
  refine ⟨.bool false, fun w' hC => qrun (by go_simp; rw [run_eq_arr _ _ (by omega) (by omega)]; simp), hK _ ?_⟩; clear hK K
  simp only [Act.put, List.setIfInBounds_toArray, List.set_cons_zero, List.set_cons_succ]
  refine wpQuiet_step (fun K hK => ?_); rw [if_pos (by rfl)]
  refine ⟨.bool false, fun w' hC => qrun (by go_simp), hK _ ?_⟩; clear hK K
  simp only [Act.put, List.setIfInBounds_toArray, List.set_cons_zero, List.set_cons_succ]
  refine wpQuiet_nil ?_
  intro w2 hC
  have hs2 := hC.size
  replace h3 : w2.heap[w.heap.size]? = some (.cells (arrC X) 22 (0, 0)) := (heap_call hC h3)
  have hBw2 : Hid (Below w.heap.size w w2) := Lib.hid (below_call hBw1.out hC)
  clear hC
  have qN := HN.out; have hN : IntKind.u32.wrap ((Y : Int) + (Z : Int)) = (N : Int) := by rw [IntKind.wrap_u32]; omega
  go_wp2_with fail
  refine wp_named ?_
  intro w3 ew3
  have hs3 : w2.heap.size ≤ w3.heap.size := by rw [ew3]; (try simp only [alloc_size, setRow_size]); omega
  replace h3 : w3.heap[w.heap.size]? = some (.cells (arrC X) 22 (0, 0)) := by rw [ew3]; exact h3
  have hBw3 : Hid (Below w.heap.size w w3) := Lib.hid (by rw [ew3]; exact hBw2.out)
  clear ew3
  refine wp_region_quiet (C := Below w3.heap.size w3) (by kernel_rfl) (by kernel_rfl) (Below.refl _ _).drew ?_
  simp only [List.toList_toArray]
  refine wpQuiet_step (fun K hK => ?_); rw [if_pos (by rfl)]
  refine ⟨.agg (arrC X), fun w' hC => qload _ _ rfl (w.heap.size) rfl _ _ _ h3 under32 rfl (info32_of (arrC X) (arrC_size _)) hC, hK _ ?_⟩; clear hK K
  simp only [Act.put, List.setIfInBounds_toArray, List.set_cons_zero, List.set_cons_succ]
  refine wpQuiet_step (fun K hK => ?_); rw [if_pos (by rfl)]
  refine ⟨.int .u32 (Y : Int), fun w' hC => qrun (by go_simp), hK _ ?_⟩; clear hK K
  simp only [Act.put, List.setIfInBounds_toArray, List.set_cons_zero, List.set_cons_succ]
  refine wpQuiet_step (fun K hK => ?_); rw [if_pos (by rfl)]
  refine ⟨.agg (arrC R), fun w' hC => qcall 16 #[.agg (arrC X), .int .u32 (Y : Int)] (by go_simp) hC (FieldMult32_to X Y R bY HR w'), hK _ ?_⟩; clear hK K
  simp only [Act.put, List.setIfInBounds_toArray, List.set_cons_zero, List.set_cons_succ]
  refine wpQuiet_step (fun K hK => ?_); rw [if_pos (by rfl)]
  refine ⟨.agg (arrC X), fun w' hC => qload _ _ rfl (w.heap.size) rfl _ _ _ h3 under32 rfl (info32_of (arrC X) (arrC_size _)) hC, hK _ ?_⟩; clear hK K
  simp only [Act.put, List.setIfInBounds_toArray, List.set_cons_zero, List.set_cons_succ]
  refine wpQuiet_step (fun K hK => ?_); rw [if_pos (by rfl)]
  refine ⟨.int .u32 (Z : Int), fun w' hC => qrun (by go_simp), hK _ ?_⟩; clear hK K
  simp only [Act.put, List.setIfInBounds_toArray, List.set_cons_zero, List.set_cons_succ]
  refine wpQuiet_step (fun K hK => ?_); rw [if_pos (by rfl)]
  refine ⟨.agg (arrC Q), fun w' hC => qcall 16 #[.agg (arrC X), .int .u32 (Z : Int)] (by go_simp) hC (FieldMult32_to X Z Q bZ HQ w'), hK _ ?_⟩; clear hK K
  simp only [Act.put, List.setIfInBounds_toArray, List.set_cons_zero, List.set_cons_succ]
  refine wpQuiet_step (fun K hK => ?_); rw [if_pos (by rfl)]
  refine ⟨.agg (arrC T), fun w' hC => qcall 13 #[.agg (arrC R), .agg (arrC Q)] (by go_simp) hC (FieldAdd_to R Q T HT w'), hK _ ?_⟩; clear hK K
  simp only [Act.put, List.setIfInBounds_toArray, List.set_cons_zero, List.set_cons_succ]
  refine wpQuiet_step (fun K hK => ?_); rw [if_pos (by rfl)]
  refine ⟨.agg (arrC X), fun w' hC => qload _ _ rfl (w.heap.size) rfl _ _ _ h3 under32 rfl (info32_of (arrC X) (arrC_size _)) hC, hK _ ?_⟩; clear hK K
  simp only [Act.put, List.setIfInBounds_toArray, List.set_cons_zero, List.set_cons_succ]
  refine wpQuiet_step (fun K hK => ?_); rw [if_pos (by rfl)]
  refine ⟨.int .u32 (Y : Int), fun w' hC => qrun (by go_simp), hK _ ?_⟩; clear hK K
  simp only [Act.put, List.setIfInBounds_toArray, List.set_cons_zero, List.set_cons_succ]
  refine wpQuiet_step (fun K hK => ?_); rw [if_pos (by rfl)]
  refine ⟨.int .u32 (Z : Int), fun w' hC => qrun (by go_simp), hK _ ?_⟩; clear hK K
  simp only [Act.put, List.setIfInBounds_toArray, List.set_cons_zero, List.set_cons_succ]
  refine wpQuiet_step (fun K hK => ?_); rw [if_pos (by rfl)]
  refine ⟨.int .u32 (N : Int), fun w' hC => qrun (by go_simp), hK _ ?_⟩; clear hK K
  simp only [Act.put, List.setIfInBounds_toArray, List.set_cons_zero, List.set_cons_succ]
  refine wpQuiet_step (fun K hK => ?_); rw [if_pos (by rfl)]
  refine ⟨.agg (arrC T), fun w' hC => qcall 16 #[.agg (arrC X), .int .u32 (N : Int)] (by go_simp) hC (FieldMult32_to X N T bN HT2 w'), hK _ ?_⟩; clear hK K
  simp only [Act.put, List.setIfInBounds_toArray, List.set_cons_zero, List.set_cons_succ]
  refine wpQuiet_step (fun K hK => ?_); rw [if_pos (by rfl)]
  refine ⟨.bool true, fun w' hC => qrun (by go_simp; rw [run_eq_arr _ _ lT lT]; simp), hK _ ?_⟩; clear hK K
  simp only [Act.put, List.setIfInBounds_toArray, List.set_cons_zero, List.set_cons_succ]
  refine wpQuiet_step (fun K hK => ?_); rw [if_pos (by rfl)]
  refine ⟨.bool true, fun w' hC => qrun (by go_simp), hK _ ?_⟩; clear hK K
  simp only [Act.put, List.setIfInBounds_toArray, List.set_cons_zero, List.set_cons_succ]
  refine wpQuiet_nil ?_
  intro w4 hC
  have hs4 := hC.size
  replace h3 : w4.heap[w.heap.size]? = some (.cells (arrC X) 22 (0, 0)) := (heap_call hC h3)
  have hBw4 : Hid (Below w.heap.size w w4) := Lib.hid (below_call hBw3.out hC)
  clear hC
  go_wp2
  go_ret
  exact ⟨rfl, hBw4.out⟩

theorem M32P_walk (X : Nat) (bX : X < 256 ^ 32) (Y : Nat) (bY : Y < 4294967296) (Z : Nat) (bZ : Z < 4294967296) (w : World) : Calls Try.prog 4 #[.agg (arrC X), .int .u32 (Y : Int), .int .u32 (Z : Int)] w fun e w' => e = .returned (.bool true) ∧ Below w.heap.size w w' := by
  by_cases h : (4294967295 : Int) < (Y : Int) + (Z : Int)
  · exact M32P_big X Y Z bY bZ h w
  · exact M32P_small X Y Z bY bZ (by omega) w

end Go.Proofs.Ytkecocibfmhdpaa
