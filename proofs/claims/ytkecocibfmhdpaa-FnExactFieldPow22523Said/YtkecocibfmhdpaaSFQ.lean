/- The reference's FieldPow22523. -/
import Derived.Test.YtkecocibfmhdpaaSPw
import Derived.Test.YtkecocibfmhdpaaSB
import Derived.Test.YtkecocibfmhdpaaXP
set_option linter.unusedSimpArgs false
set_option linter.unusedVariables false
namespace Go.Proofs.Ytkecocibfmhdpaa
open Go.RowKit

theorem power_lit (a R : Nat) (ha : a < pF) (HR : Hid (R = pm a 7237005577332262213973186563042994240829374041602535252466099000494570602493 pF)) (w : World) :
    Calls Try.prog 32 #[.agg (numC a), .agg #[.int .u64 18446744073709551613, .int .u64 18446744073709551615, .int .u64 18446744073709551615, .int .u64 1152921504606846975], .agg (numC pF)] w fun e w' => e = .returned (.agg (numC R)) ∧ Below w.heap.size w w' := by
  have h : numC 7237005577332262213973186563042994240829374041602535252466099000494570602493 = #[.int .u64 18446744073709551613, .int .u64 18446744073709551615, .int .u64 18446744073709551615, .int .u64 1152921504606846975] := four_num 7237005577332262213973186563042994240829374041602535252466099000494570602493 _ _ _ _ (by decide +kernel) (by decide +kernel) (by decide +kernel) (by decide +kernel)
  have := power_to a 7237005577332262213973186563042994240829374041602535252466099000494570602493 pF R HR ha (by decide +kernel) (by unfold pF; omega) (by decide +kernel) w
  rw [h] at this
  exact this
set_option maxHeartbeats 1000000 in
theorem specPow_to (N R : Nat) (hR : Hid (R = xp (valN N) 7237005577332262213973186563042994240829374041602535252466099000494570602493)) (w : World) :
    Calls Try.prog 19 #[.agg (arrC N)] w fun e w' => e = .returned (.agg (arrC R)) ∧ Below w.heap.size w w' := by
  obtain ⟨a, qa⟩ : ∃ u : Nat, u = valN N := ⟨_, rfl⟩
  have Ha := Lib.hid qa; clear qa
  have la : a < pF := by rw [Ha.out]; exact valN_lt' _
  have HR : Hid (R = pm a 7237005577332262213973186563042994240829374041602535252466099000494570602493 pF) := Lib.hid (by rw [Ha.out]; exact hR.out)
  clear hR
  go_enter Try.func19, Try.ntmps19
  go_wp2_with (first
    | ((with_reducible refine at_dst 3 ?_); refine wpList_load_row rfl 22 _ rfl (w.heap.size) rfl 22 (arrC N) (0, 0) _ (heap_old _ (heap_new_at _ _ _ rfl)) under32 rfl (info32_of (arrC N) (arrC_size _)) ?_))
  refine (element_to N a Ha _).mono ?_
  rintro e w1 ⟨rfl, hC1⟩
  have hs1 : w.heap.size + 1 + 1 ≤ w1.heap.size := by have := hC1.size; (try simp only [alloc_size, setRow_size] at this); omega
  replace h1 : w1.heap[w.heap.size]? = some (.cells (arrC N) 22 (0, 0)) := (heap_call hC1 (heap_old _ (heap_new_at _ _ _ rfl)))
  replace h2 : w1.heap[w.heap.size + 1]? = some (.cells (zL) 22 (0, 0)) := (heap_call hC1 (heap_new_at _ _ _ (by simp only [alloc_size, setRow_size])))
  have hBw1 : Hid (Below w.heap.size w w1) := Lib.hid (below_call (below_alloc (below_alloc (Below.refl _ w) _) _) hC1)
  clear hC1
  go_wp2_with fail
  refine (prime_any _).mono ?_
  rintro e w2 ⟨rfl, hC2⟩
  have hs2 : w1.heap.size ≤ w2.heap.size := by have := hC2.size; (try simp only [alloc_size, setRow_size] at this); omega
  replace h1 : w2.heap[w.heap.size]? = some (.cells (arrC N) 22 (0, 0)) := (heap_call hC2 h1)
  replace h2 : w2.heap[w.heap.size + 1]? = some (.cells (zL) 22 (0, 0)) := (heap_call hC2 h2)
  have hBw2 : Hid (Below w.heap.size w w2) := Lib.hid (below_call hBw1.out hC2)
  clear hC2
  go_wp2_with fail
  refine (power_lit a R la HR _).mono ?_
  rintro e w3 ⟨rfl, hC3⟩
  have hs3 : w2.heap.size ≤ w3.heap.size := by have := hC3.size; (try simp only [alloc_size, setRow_size] at this); omega
  replace h1 : w3.heap[w.heap.size]? = some (.cells (arrC N) 22 (0, 0)) := (heap_call hC3 h1)
  replace h2 : w3.heap[w.heap.size + 1]? = some (.cells (zL) 22 (0, 0)) := (heap_call hC3 h2)
  have hBw3 : Hid (Below w.heap.size w w3) := Lib.hid (below_call hBw2.out hC3)
  clear hC3
  go_wp2_with fail
  refine (octets_any R _).mono ?_
  rintro e w4 ⟨rfl, hC4⟩
  have hs4 : w3.heap.size ≤ w4.heap.size := by have := hC4.size; (try simp only [alloc_size, setRow_size] at this); omega
  replace h1 : w4.heap[w.heap.size]? = some (.cells (arrC N) 22 (0, 0)) := (heap_call hC4 h1)
  replace h2 : w4.heap[w.heap.size + 1]? = some (.cells (zL) 22 (0, 0)) := (heap_call hC4 h2)
  have hBw4 : Hid (Below w.heap.size w w4) := Lib.hid (below_call hBw3.out hC4)
  clear hC4
  go_wp2_with (first
    | ((with_reducible refine at_store 2 ?_); refine wpList_store_row rfl 22 _ _ rfl (w.heap.size + 1) (arrC R) rfl rfl 22 (zL) h2 (info32_of (arrC R) (arrC_size _)) (zL_size.trans (arrC_size _).symm) (arrC_one _) ?_))
  refine bodyPost_ret (results_cell_row rfl _ _ (w.heap.size + 1) 22 (arrC R) (0, 0) _ rfl (setRow_heap _ _ _ _ _ _ h2) under32 rfl (info32_of (arrC R) (arrC_size _))) rfl ⟨rfl, (below_setRow hBw4.out (by omega) _)⟩

end Go.Proofs.Ytkecocibfmhdpaa
