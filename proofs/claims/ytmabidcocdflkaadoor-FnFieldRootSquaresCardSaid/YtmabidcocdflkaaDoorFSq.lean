/- The thin package's FieldSquare. -/
import Derived.Test.YtmabidcocdflkaaDoorUS
import Derived.Test.YtmabidcocdflkaaDoorK0
set_option linter.unusedSimpArgs false
set_option linter.unusedVariables false
namespace Go.Proofs.YtmabidcocdflkaaDoor
open Go.RowKit

set_option maxHeartbeats 1000000 in
theorem FieldSq_to (N R : Nat) (HR : Hid (R = valN N * valN N % pF)) (w : World) :
    Calls Tryd.prog 10 #[.agg (arrC N)] w fun e w' => e = .returned (.agg (arrC R)) ∧ Below w.heap.size w w' := by
  go_enter Tryd.func10, Tryd.ntmps10
  go_wp2_with (first
    | ((with_reducible refine at_dst 4 ?_); refine wpList_load_row rfl 22 _ rfl (w.heap.size) rfl 22 (arrC N) (0, 0) _ (heap_old _ (heap_old _ (heap_new_at _ _ _ rfl))) under32 rfl (info32_of (arrC N) (arrC_size _)) ?_))
  refine (elementOf_fe N _).mono ?_
  rintro e w1 ⟨b1, rfl, hlb1, hC1, hf1⟩
  have hs1 : w.heap.size + 1 + 1 + 1 ≤ w1.heap.size := by have := hC1.size; (try simp only [alloc_size, setRow_size] at this); omega
  replace h1 : w1.heap[w.heap.size]? = some (.cells (arrC N) 22 (0, 0)) := (heap_call hC1 (heap_old _ (heap_old _ (heap_new_at _ _ _ rfl))))
  replace h2 : w1.heap[w.heap.size + 1]? = some (.cells (zL) 22 (0, 0)) := (heap_call hC1 (heap_old _ (heap_new_at _ _ _ (by simp only [alloc_size, setRow_size]))))
  replace h3 : Fe w1 (w.heap.size + 1 + 1) (0) (0) := (Fe.below_all (Fe.newz_at _ _ (by (try simp only [alloc_size, setRow_size]))) hC1)
  have hBw1 : Hid (Below w.heap.size w w1) := Lib.hid (below_call (below_alloc (below_alloc (below_alloc (Below.refl _ w) _) _) _) hC1)
  clear hC1
  have hlb1 : w.heap.size + 1 + 1 + 1 ≤ b1 := by (try simp only [alloc_size, setRow_size] at hlb1); omega
  go_wp2_with fail
  refine (square_fe (w.heap.size + 1 + 1) 0 b1 0 _ _ _ h3 hf1 R HR).mono ?_
  rintro e w2 ⟨rfl, hC2⟩
  have hs2 : w1.heap.size ≤ w2.heap.size := by have := hC2.size; (try simp only [alloc_size, setRow_size] at this); omega
  replace h1 : w2.heap[w.heap.size]? = some (.cells (arrC N) 22 (0, 0)) := ((Sets.block hC2 _ (heap_lt h1) (by omega)).trans h1)
  replace h2 : w2.heap[w.heap.size + 1]? = some (.cells (zL) 22 (0, 0)) := ((Sets.block hC2 _ (heap_lt h2) (by omega)).trans h2)
  replace hf1 : Fe w2 (b1) (0) ((valN N)) := (Sets.others hC2 hf1 (by omega))
  replace h3 : Fe w2 (w.heap.size + 1 + 1) (0) (R) := (Sets.fe' hC2 h3)
  have hBw2 : Hid (Below w.heap.size w w2) := Lib.hid (hBw1.out.trans (hC2.below (by omega) hBw1.out.size))
  clear hC2
  go_wp2_with fail
  refine (elementBytes_fe (w.heap.size + 1 + 1) 0 _ _ h3).mono ?_
  rintro e w3 ⟨rfl, hC3⟩
  have hs3 : w2.heap.size ≤ w3.heap.size := by have := hC3.size; (try simp only [alloc_size, setRow_size] at this); omega
  replace h1 : w3.heap[w.heap.size]? = some (.cells (arrC N) 22 (0, 0)) := (heap_call hC3 h1)
  replace h2 : w3.heap[w.heap.size + 1]? = some (.cells (zL) 22 (0, 0)) := (heap_call hC3 h2)
  replace hf1 : Fe w3 (b1) (0) ((valN N)) := (Fe.below_all hf1 hC3)
  replace h3 : Fe w3 (w.heap.size + 1 + 1) (0) (R) := (Fe.below_all h3 hC3)
  have hBw3 : Hid (Below w.heap.size w w3) := Lib.hid (below_call hBw2.out hC3)
  clear hC3
  go_wp2_with (first
    | ((with_reducible refine at_store 2 ?_); refine wpList_store_row rfl 22 _ _ rfl (w.heap.size + 1) (arrC R) rfl rfl 22 (zL) h2 (info32_of (arrC R) (arrC_size _)) (zL_size.trans (arrC_size _).symm) (arrC_one _) ?_))
  refine bodyPost_ret (results_cell_row rfl _ _ (w.heap.size + 1) 22 (arrC R) (0, 0) _ rfl (setRow_heap _ _ _ _ _ _ h2) under32 rfl (info32_of (arrC R) (arrC_size _))) rfl ⟨rfl, (below_setRow hBw3.out (by omega) _)⟩

end Go.Proofs.YtmabidcocdflkaaDoor
