/- Absolute. -/
import Derived.Test.YtmabidcocdflkaaDoorUSe
import Derived.Test.YtmabidcocdflkaaDoorD1
import Derived.Test.YtmabidcocdflkaaDoorF8
import Derived.Test.YtmabidcocdflkaaDoorSq
set_option linter.unusedSimpArgs false
set_option linter.unusedVariables false
namespace Go.Proofs.YtmabidcocdflkaaDoor
open Go.RowKit

set_option maxHeartbeats 2000000 in
theorem absolute_raw0 (vb vo ab ao x v0 R B : Nat) (dU : Apart vb vo ab ao) (HR : Hid (R = (pF - x) % pF)) (HZ : Hid ((0 : Int) = ((x % 2 : Nat) : Int))) (w : World) (hD0 : Var 1 z5 B w) (hv : Fe w vb vo v0) (ha : Fe w ab ao x) :
    Calls Tryd.prog 26 #[.pointer (some ⟨vb, vo, none⟩), .pointer (some ⟨ab, ao, none⟩)] w fun e w' => e = .returned (.pointer (some ⟨vb, vo, none⟩)) ∧ Sets w w' vb vo x := by
  have hvl := hv.lt; have hal := ha.lt; have hBl := hD0.1
  go_enter Tryd.func26, Tryd.ntmps26
  go_wp2_with fail
  refine (neg_fe (w.heap.size) 0 ab ao _ _ B _ (hD0.later (below_alloc (Below.refl _ w) _)) (by omega) (Fe.newz_at _ _ rfl) (Fe.alloc ha _) (apart_blk _ _ _ _ (by omega)) R HR).mono ?_
  rintro e w1 ⟨rfl, hC1⟩
  have hs1 : w.heap.size + 1 ≤ w1.heap.size := by have := hC1.size; (try simp only [alloc_size, setRow_size] at this); omega
  replace hv : Fe w1 (vb) (vo) (v0) := (Sets.others hC1 (Fe.alloc hv _) (by omega))
  replace ha : Fe w1 (ab) (ao) (x) := (Sets.others hC1 (Fe.alloc ha _) (by omega))
  replace h6 : Fe w1 (w.heap.size) (0) (R) := (Sets.fe' hC1 (Fe.newz_at _ _ rfl))
  have hBw1 : Hid (Below w.heap.size w w1) := Lib.hid ((below_alloc (Below.refl _ w) _).trans (hC1.below (by omega) (below_alloc (Below.refl _ w) _).size))
  clear hC1
  go_wp2_with fail
  refine (IsNegative_any ab ao x _ ha 0 HZ).mono ?_
  rintro e w2 ⟨rfl, hC2⟩
  have hs2 : w1.heap.size ≤ w2.heap.size := by have := hC2.size; (try simp only [alloc_size, setRow_size] at this); omega
  replace hv : Fe w2 (vb) (vo) (v0) := (Fe.below_all hv hC2)
  replace ha : Fe w2 (ab) (ao) (x) := (Fe.below_all ha hC2)
  replace h6 : Fe w2 (w.heap.size) (0) (R) := (Fe.below_all h6 hC2)
  have hBw2 : Hid (Below w.heap.size w w2) := Lib.hid (below_call hBw1.out hC2)
  clear hC2
  go_wp2_with fail
  refine (select_fe0 vb vo (w.heap.size) 0 ab ao _ _ _ (apart_blk _ _ _ _ (by omega)) dU _ hv h6 ha).mono ?_
  rintro e w3 ⟨rfl, hC3⟩
  go_wp2
  go_ret
  exact ⟨rfl, Sets.ahead hBw2.out hC3 hvl⟩

set_option maxHeartbeats 2000000 in
theorem absolute_raw1 (vb vo ab ao x v0 R B : Nat) (dU : Apart vb vo ab ao) (HR : Hid (R = (pF - x) % pF)) (HZ : Hid ((1 : Int) = ((x % 2 : Nat) : Int))) (w : World) (hD0 : Var 1 z5 B w) (hv : Fe w vb vo v0) (ha : Fe w ab ao x) :
    Calls Tryd.prog 26 #[.pointer (some ⟨vb, vo, none⟩), .pointer (some ⟨ab, ao, none⟩)] w fun e w' => e = .returned (.pointer (some ⟨vb, vo, none⟩)) ∧ Sets w w' vb vo R := by
  have hvl := hv.lt; have hal := ha.lt; have hBl := hD0.1
  go_enter Tryd.func26, Tryd.ntmps26
  go_wp2_with fail
  refine (neg_fe (w.heap.size) 0 ab ao _ _ B _ (hD0.later (below_alloc (Below.refl _ w) _)) (by omega) (Fe.newz_at _ _ rfl) (Fe.alloc ha _) (apart_blk _ _ _ _ (by omega)) R HR).mono ?_
  rintro e w1 ⟨rfl, hC1⟩
  have hs1 : w.heap.size + 1 ≤ w1.heap.size := by have := hC1.size; (try simp only [alloc_size, setRow_size] at this); omega
  replace hv : Fe w1 (vb) (vo) (v0) := (Sets.others hC1 (Fe.alloc hv _) (by omega))
  replace ha : Fe w1 (ab) (ao) (x) := (Sets.others hC1 (Fe.alloc ha _) (by omega))
  replace h6 : Fe w1 (w.heap.size) (0) (R) := (Sets.fe' hC1 (Fe.newz_at _ _ rfl))
  have hBw1 : Hid (Below w.heap.size w w1) := Lib.hid ((below_alloc (Below.refl _ w) _).trans (hC1.below (by omega) (below_alloc (Below.refl _ w) _).size))
  clear hC1
  go_wp2_with fail
  refine (IsNegative_any ab ao x _ ha 1 HZ).mono ?_
  rintro e w2 ⟨rfl, hC2⟩
  have hs2 : w1.heap.size ≤ w2.heap.size := by have := hC2.size; (try simp only [alloc_size, setRow_size] at this); omega
  replace hv : Fe w2 (vb) (vo) (v0) := (Fe.below_all hv hC2)
  replace ha : Fe w2 (ab) (ao) (x) := (Fe.below_all ha hC2)
  replace h6 : Fe w2 (w.heap.size) (0) (R) := (Fe.below_all h6 hC2)
  have hBw2 : Hid (Below w.heap.size w w2) := Lib.hid (below_call hBw1.out hC2)
  clear hC2
  go_wp2_with fail
  refine (select_fe1 vb vo (w.heap.size) 0 ab ao _ _ _ (apart_blk _ _ _ _ (by omega)) dU _ hv h6 ha).mono ?_
  rintro e w3 ⟨rfl, hC3⟩
  go_wp2
  go_ret
  exact ⟨rfl, Sets.ahead hBw2.out hC3 hvl⟩

theorem absolute_fe (vb vo ab ao x v0 B : Nat) (dU : Apart vb vo ab ao) (w : World) (hD0 : Var 1 z5 B w) (hv : Fe w vb vo v0) (ha : Fe w ab ao x) (R : Nat) (hR : Hid (R = absN x)) :
    Calls Tryd.prog 26 #[.pointer (some ⟨vb, vo, none⟩), .pointer (some ⟨ab, ao, none⟩)] w fun e w' => e = .returned (.pointer (some ⟨vb, vo, none⟩)) ∧ Sets w w' vb vo R := by
  rw [hR.out]
  unfold absN
  by_cases h : x % 2 = 1
  · rw [if_pos h]
    exact absolute_raw1 vb vo ab ao x v0 _ B dU rfl (Lib.hid (by rw [h]; rfl)) w hD0 hv ha
  · rw [if_neg h]
    exact absolute_raw0 vb vo ab ao x v0 _ B dU rfl (Lib.hid (by rw [show x % 2 = 0 by omega]; rfl)) w hD0 hv ha

end Go.Proofs.YtmabidcocdflkaaDoor
