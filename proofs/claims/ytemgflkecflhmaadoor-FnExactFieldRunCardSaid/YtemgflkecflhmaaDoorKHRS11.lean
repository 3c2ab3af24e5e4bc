/- impl.fieldStep: each kind. -/
import Derived.StillTailTactics
import Derived.Test.YtemgflkecflhmaaDoorKHRSw
import Derived.Test.YtemgflkecflhmaaDoorKHUN
import Derived.Test.YtemgflkecflhmaaDoorKHUS
import Derived.Test.YtemgflkecflhmaaDoorKHUSW
import Derived.Test.YtemgflkecflhmaaDoorKHUSe
import Derived.Test.YtemgflkecflhmaaDoorKL2
import Derived.Test.YtemgflkecflhmaaDoorKL3
set_option maxRecDepth 4000
set_option linter.unusedSimpArgs false
set_option linter.unusedVariables false
namespace Go.Proofs.YtemgflkecflhmaaDoor
open Go.RowKit
theorem Two.keep2 {b c : Nat} {w w1 w2 : World} (hB : Below w.heap.size w w1) (h : Two b c w1.drew w2) : Keep2 b c w w2 :=
  ⟨h.os.trans hB.os, h.tape.trans hB.tape, h.output.trans hB.output, Nat.le_trans hB.size (Nat.le_of_eq h.size), fun k hk hb hc => (h.block k hb hc).trans (hB.block k hk)⟩


set_option maxHeartbeats 4000000 in
theorem step_11a (rb len cap z x n zb xb v0 vx B : Nat) (y : Int) (hz : z < len) (hx : x < len) (hn : n % 2 = 0) (hne : zb ≠ xb) (w : World)
    (cz : w.cell? ⟨rb, z, none⟩ = some (.pointer (some ⟨zb, 0, none⟩))) (cx : w.cell? ⟨rb, x, none⟩ = some (.pointer (some ⟨xb, 0, none⟩)))
    (fz : Fe w zb 0 v0) (fx : Fe w xb 0 vx) :
    Calls Tryd.prog 10 #[.slice (some ⟨rb, 0, none⟩) len cap, .agg (opC 11 (z : Int) (x : Int) (y : Int) n)] w fun e w' => e = .returned (.tuple #[]) ∧ Fe w' zb 0 v0 ∧ Fe w' xb 0 vx ∧ Keep2 zb xb w w' := by
  go_enter Tryd.func10, Tryd.ntmps10
  go_upto_region 1 with fail
  refine wp_named ?_
  intro w1 ew1
  have hs1 : w.heap.size + 1 ≤ w1.heap.size := by rw [ew1]; (try simp only [alloc_size, setRow_size]); omega
  have hg : w1.heap[w.heap.size]? = some (.cells (opC 11 (z : Int) (x : Int) (y : Int) n) 33 (0, 0)) := by rw [ew1]; exact heap_new_at _ _ _ rfl
  have hB1 : Hid (Below w.heap.size w w1) := Lib.hid (by rw [ew1]; exact below_alloc (Below.refl _ w) _)
  have k0 : w1.cell? ⟨w.heap.size, 0, none⟩ = some (.int .i64 11) := cell_of_row w1 _ 0 _ _ _ hg
  have k1 : w1.cell? ⟨w.heap.size, 1, none⟩ = some (.int .i64 (z : Int)) := cell_of_row w1 _ 1 _ _ _ hg
  have k2 : w1.cell? ⟨w.heap.size, 2, none⟩ = some (.int .i64 (x : Int)) := cell_of_row w1 _ 2 _ _ _ hg
  have k3 : w1.cell? ⟨w.heap.size, 3, none⟩ = some (.int .i64 (y : Int)) := cell_of_row w1 _ 3 _ _ _ hg
  have k4 : w1.cell? ⟨w.heap.size, 4, none⟩ = some (.int .u32 (n : Int)) := cell_of_row w1 _ 4 _ _ _ hg
  have lz := Lib.hid fz.lt
  have c1 : w1.cell? ⟨rb, z, none⟩ = some (.pointer (some ⟨zb, 0, none⟩)) := (hB1.out.cell (p := ⟨rb, z, none⟩) (World.block_lt_of_cell? w ⟨rb, z, none⟩ cz)).trans cz
  have F1 := Lib.hid (Fe.below_all fz hB1.out)
  have c2 : w1.cell? ⟨rb, x, none⟩ = some (.pointer (some ⟨xb, 0, none⟩)) := (hB1.out.cell (p := ⟨rb, x, none⟩) (World.block_lt_of_cell? w ⟨rb, x, none⟩ cx)).trans cx
  have F2 := Lib.hid (Fe.below_all fx hB1.out)
  clear ew1 hg cz fz cx fx
  go_wp2
  go_still_tail 10, (by kernel_rfl)
  change wpList _ _ _ _ _ w1.drew
  go_wp2_with fail
  rw [show ((n : Int) % 2) = 0 by omega]
  refine (swap_fe0 zb 0 xb 0 v0 vx hne _ (Fe.drew F1.out) (Fe.drew F2.out)).mono ?_
  rintro e w2 ⟨rfl, hF, hG, hS⟩
  go_wp2
  go_end0
  exact ⟨rfl, hF, hG, Two.keep2 hB1.out hS⟩

set_option maxHeartbeats 4000000 in
theorem step_11b (rb len cap z x n zb xb v0 vx B : Nat) (y : Int) (hz : z < len) (hx : x < len) (hn : n % 2 = 1) (hne : zb ≠ xb) (w : World)
    (cz : w.cell? ⟨rb, z, none⟩ = some (.pointer (some ⟨zb, 0, none⟩))) (cx : w.cell? ⟨rb, x, none⟩ = some (.pointer (some ⟨xb, 0, none⟩)))
    (fz : Fe w zb 0 v0) (fx : Fe w xb 0 vx) :
    Calls Tryd.prog 10 #[.slice (some ⟨rb, 0, none⟩) len cap, .agg (opC 11 (z : Int) (x : Int) (y : Int) n)] w fun e w' => e = .returned (.tuple #[]) ∧ Fe w' zb 0 vx ∧ Fe w' xb 0 v0 ∧ Keep2 zb xb w w' := by
  go_enter Tryd.func10, Tryd.ntmps10
  go_upto_region 1 with fail
  refine wp_named ?_
  intro w1 ew1
  have hs1 : w.heap.size + 1 ≤ w1.heap.size := by rw [ew1]; (try simp only [alloc_size, setRow_size]); omega
  have hg : w1.heap[w.heap.size]? = some (.cells (opC 11 (z : Int) (x : Int) (y : Int) n) 33 (0, 0)) := by rw [ew1]; exact heap_new_at _ _ _ rfl
  have hB1 : Hid (Below w.heap.size w w1) := Lib.hid (by rw [ew1]; exact below_alloc (Below.refl _ w) _)
  have k0 : w1.cell? ⟨w.heap.size, 0, none⟩ = some (.int .i64 11) := cell_of_row w1 _ 0 _ _ _ hg
  have k1 : w1.cell? ⟨w.heap.size, 1, none⟩ = some (.int .i64 (z : Int)) := cell_of_row w1 _ 1 _ _ _ hg
  have k2 : w1.cell? ⟨w.heap.size, 2, none⟩ = some (.int .i64 (x : Int)) := cell_of_row w1 _ 2 _ _ _ hg
  have k3 : w1.cell? ⟨w.heap.size, 3, none⟩ = some (.int .i64 (y : Int)) := cell_of_row w1 _ 3 _ _ _ hg
  have k4 : w1.cell? ⟨w.heap.size, 4, none⟩ = some (.int .u32 (n : Int)) := cell_of_row w1 _ 4 _ _ _ hg
  have lz := Lib.hid fz.lt
  have c1 : w1.cell? ⟨rb, z, none⟩ = some (.pointer (some ⟨zb, 0, none⟩)) := (hB1.out.cell (p := ⟨rb, z, none⟩) (World.block_lt_of_cell? w ⟨rb, z, none⟩ cz)).trans cz
  have F1 := Lib.hid (Fe.below_all fz hB1.out)
  have c2 : w1.cell? ⟨rb, x, none⟩ = some (.pointer (some ⟨xb, 0, none⟩)) := (hB1.out.cell (p := ⟨rb, x, none⟩) (World.block_lt_of_cell? w ⟨rb, x, none⟩ cx)).trans cx
  have F2 := Lib.hid (Fe.below_all fx hB1.out)
  clear ew1 hg cz fz cx fx
  go_wp2
  go_still_tail 10, (by kernel_rfl)
  change wpList _ _ _ _ _ w1.drew
  go_wp2_with fail
  rw [show ((n : Int) % 2) = 1 by omega]
  refine (swap_fe1 zb 0 xb 0 v0 vx hne _ (Fe.drew F1.out) (Fe.drew F2.out)).mono ?_
  rintro e w2 ⟨rfl, hF, hG, hS⟩
  go_wp2
  go_end0
  exact ⟨rfl, hF, hG, Two.keep2 hB1.out hS⟩

set_option maxHeartbeats 4000000 in
theorem step_11c (rb len cap z n zb v0 B : Nat) (y : Int) (hz : z < len) (hn : n % 2 = 0) (w : World)
    (cz : w.cell? ⟨rb, z, none⟩ = some (.pointer (some ⟨zb, 0, none⟩)))
    (fz : Fe w zb 0 v0) :
    Calls Tryd.prog 10 #[.slice (some ⟨rb, 0, none⟩) len cap, .agg (opC 11 (z : Int) (z : Int) (y : Int) n)] w fun e w' => e = .returned (.tuple #[]) ∧ Fe w' zb 0 v0 ∧ Keep2 zb zb w w' := by
  go_enter Tryd.func10, Tryd.ntmps10
  go_upto_region 1 with fail
  refine wp_named ?_
  intro w1 ew1
  have hs1 : w.heap.size + 1 ≤ w1.heap.size := by rw [ew1]; (try simp only [alloc_size, setRow_size]); omega
  have hg : w1.heap[w.heap.size]? = some (.cells (opC 11 (z : Int) (z : Int) (y : Int) n) 33 (0, 0)) := by rw [ew1]; exact heap_new_at _ _ _ rfl
  have hB1 : Hid (Below w.heap.size w w1) := Lib.hid (by rw [ew1]; exact below_alloc (Below.refl _ w) _)
  have k0 : w1.cell? ⟨w.heap.size, 0, none⟩ = some (.int .i64 11) := cell_of_row w1 _ 0 _ _ _ hg
  have k1 : w1.cell? ⟨w.heap.size, 1, none⟩ = some (.int .i64 (z : Int)) := cell_of_row w1 _ 1 _ _ _ hg
  have k2 : w1.cell? ⟨w.heap.size, 2, none⟩ = some (.int .i64 (z : Int)) := cell_of_row w1 _ 2 _ _ _ hg
  have k3 : w1.cell? ⟨w.heap.size, 3, none⟩ = some (.int .i64 (y : Int)) := cell_of_row w1 _ 3 _ _ _ hg
  have k4 : w1.cell? ⟨w.heap.size, 4, none⟩ = some (.int .u32 (n : Int)) := cell_of_row w1 _ 4 _ _ _ hg
  have lz := Lib.hid fz.lt
  have c1 : w1.cell? ⟨rb, z, none⟩ = some (.pointer (some ⟨zb, 0, none⟩)) := (hB1.out.cell (p := ⟨rb, z, none⟩) (World.block_lt_of_cell? w ⟨rb, z, none⟩ cz)).trans cz
  have F1 := Lib.hid (Fe.below_all fz hB1.out)
  clear ew1 hg cz fz
  go_wp2
  go_still_tail 10, (by kernel_rfl)
  change wpList _ _ _ _ _ w1.drew
  go_wp2_with fail
  rw [show ((n : Int) % 2) = 0 by omega]
  refine (swap_self0 zb 0 v0 _ (Fe.drew F1.out)).mono ?_
  rintro e w2 ⟨rfl, hF, hS⟩
  go_wp2
  go_end0
  exact ⟨rfl, hF, Two.keep2 hB1.out hS⟩

set_option maxHeartbeats 4000000 in
theorem step_11d (rb len cap z n zb v0 B : Nat) (y : Int) (hz : z < len) (hn : n % 2 = 1) (w : World)
    (cz : w.cell? ⟨rb, z, none⟩ = some (.pointer (some ⟨zb, 0, none⟩)))
    (fz : Fe w zb 0 v0) :
    Calls Tryd.prog 10 #[.slice (some ⟨rb, 0, none⟩) len cap, .agg (opC 11 (z : Int) (z : Int) (y : Int) n)] w fun e w' => e = .returned (.tuple #[]) ∧ Fe w' zb 0 v0 ∧ Keep2 zb zb w w' := by
  go_enter Tryd.func10, Tryd.ntmps10
  go_upto_region 1 with fail
  refine wp_named ?_
  intro w1 ew1
  have hs1 : w.heap.size + 1 ≤ w1.heap.size := by rw [ew1]; (try simp only [alloc_size, setRow_size]); omega
  have hg : w1.heap[w.heap.size]? = some (.cells (opC 11 (z : Int) (z : Int) (y : Int) n) 33 (0, 0)) := by rw [ew1]; exact heap_new_at _ _ _ rfl
  have hB1 : Hid (Below w.heap.size w w1) := Lib.hid (by rw [ew1]; exact below_alloc (Below.refl _ w) _)
  have k0 : w1.cell? ⟨w.heap.size, 0, none⟩ = some (.int .i64 11) := cell_of_row w1 _ 0 _ _ _ hg
  have k1 : w1.cell? ⟨w.heap.size, 1, none⟩ = some (.int .i64 (z : Int)) := cell_of_row w1 _ 1 _ _ _ hg
  have k2 : w1.cell? ⟨w.heap.size, 2, none⟩ = some (.int .i64 (z : Int)) := cell_of_row w1 _ 2 _ _ _ hg
  have k3 : w1.cell? ⟨w.heap.size, 3, none⟩ = some (.int .i64 (y : Int)) := cell_of_row w1 _ 3 _ _ _ hg
  have k4 : w1.cell? ⟨w.heap.size, 4, none⟩ = some (.int .u32 (n : Int)) := cell_of_row w1 _ 4 _ _ _ hg
  have lz := Lib.hid fz.lt
  have c1 : w1.cell? ⟨rb, z, none⟩ = some (.pointer (some ⟨zb, 0, none⟩)) := (hB1.out.cell (p := ⟨rb, z, none⟩) (World.block_lt_of_cell? w ⟨rb, z, none⟩ cz)).trans cz
  have F1 := Lib.hid (Fe.below_all fz hB1.out)
  clear ew1 hg cz fz
  go_wp2
  go_still_tail 10, (by kernel_rfl)
  change wpList _ _ _ _ _ w1.drew
  go_wp2_with fail
  rw [show ((n : Int) % 2) = 1 by omega]
  refine (swap_self1 zb 0 v0 _ (Fe.drew F1.out)).mono ?_
  rintro e w2 ⟨rfl, hF, hS⟩
  go_wp2
  go_end0
  exact ⟨rfl, hF, Two.keep2 hB1.out hS⟩
end Go.Proofs.YtemgflkecflhmaaDoor
