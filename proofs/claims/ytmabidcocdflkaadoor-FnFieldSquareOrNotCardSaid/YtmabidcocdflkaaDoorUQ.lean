/- Pow22523. -/
import Derived.Test.YtmabidcocdflkaaDoorUS
import Derived.Test.YtmabidcocdflkaaDoorUN
import Derived.Test.YtmabidcocdflkaaDoorUMF
set_option linter.unusedSimpArgs false
set_option linter.unusedVariables false
namespace Go.Proofs.YtmabidcocdflkaaDoor
open Go.RowKit

set_option maxHeartbeats 4000000 in
theorem pow22523_fe (vb vo ab ao x v0 : Nat) (w : World) (hv : Fe w vb vo v0) (ha : Fe w ab ao x) :
    Calls Tryd.prog 23 #[.pointer (some ⟨vb, vo, none⟩), .pointer (some ⟨ab, ao, none⟩)] w fun e w' => e = .returned (.pointer (some ⟨vb, vo, none⟩)) ∧ Sets w w' vb vo (xp x 7237005577332262213973186563042994240829374041602535252466099000494570602493) := by
  have hvl := hv.lt; have hal := ha.lt
  have hxs := ha.small
  rw [← xp_one x hxs] at ha
  clear hxs
  go_enter Tryd.func23, Tryd.ntmps23
  go_wp2_with fail
  refine (square_fe (w.heap.size) 0 ab ao _ _ _ (Fe.alloc (Fe.alloc (Fe.newz_at _ _ rfl) _) _) (Fe.alloc (Fe.alloc (Fe.alloc ha _) _) _) (xp x 2) (Lib.hid (xp_to x 1 1 2 rfl))).mono ?_
  rintro e w1 ⟨rfl, hC1⟩
  have hs1 : w.heap.size + 1 + 1 + 1 ≤ w1.heap.size := by have := hC1.size; (try simp only [alloc_size, setRow_size] at this); omega
  replace hv : Fe w1 (vb) (vo) (v0) := (Sets.others hC1 (Fe.alloc (Fe.alloc (Fe.alloc hv _) _) _) (by omega))
  replace ha : Fe w1 (ab) (ao) ((xp x 1)) := (Sets.others hC1 (Fe.alloc (Fe.alloc (Fe.alloc ha _) _) _) (by omega))
  replace h6 : Fe w1 (w.heap.size + 1) (0) (0) := (Sets.others hC1 (Fe.alloc (Fe.newz_at _ _ (by (try simp only [alloc_size, setRow_size]))) _) (by omega))
  replace h7 : Fe w1 (w.heap.size + 1 + 1) (0) (0) := (Sets.others hC1 (Fe.newz_at _ _ (by (try simp only [alloc_size, setRow_size]))) (by omega))
  replace h5 : Fe w1 (w.heap.size) (0) ((xp x 2)) := (Sets.fe' hC1 (Fe.alloc (Fe.alloc (Fe.newz_at _ _ rfl) _) _))
  have hBw1 : Hid (Below w.heap.size w w1) := Lib.hid ((below_alloc (below_alloc (below_alloc (Below.refl _ w) _) _) _).trans (hC1.below (by omega) (below_alloc (below_alloc (below_alloc (Below.refl _ w) _) _) _).size))
  clear hC1
  go_wp2_with fail
  refine (mul_fe (w.heap.size + 1) 0 ab ao (w.heap.size) 0 _ _ _ _ h6 ha h5 (xp x 3) (Lib.hid (xp_to x 1 2 3 rfl))).mono ?_
  rintro e w2 ⟨rfl, hC2⟩
  have hs2 : w1.heap.size ≤ w2.heap.size := by have := hC2.size; (try simp only [alloc_size, setRow_size] at this); omega
  replace hv : Fe w2 (vb) (vo) (v0) := (Sets.others hC2 hv (by omega))
  replace ha : Fe w2 (ab) (ao) ((xp x 1)) := (Sets.others hC2 ha (by omega))
  replace h7 : Fe w2 (w.heap.size + 1 + 1) (0) (0) := (Sets.others hC2 h7 (by omega))
  replace h5 : Fe w2 (w.heap.size) (0) ((xp x 2)) := (Sets.others hC2 h5 (by omega))
  replace h6 : Fe w2 (w.heap.size + 1) (0) ((xp x 3)) := (Sets.fe' hC2 h6)
  have hBw2 : Hid (Below w.heap.size w w2) := Lib.hid (hBw1.out.trans (hC2.below (by omega) hBw1.out.size))
  clear hC2
  go_wp2_with fail
  refine (square_fe (w.heap.size) 0 (w.heap.size + 1) 0 _ _ _ h5 h6 (xp x 6) (Lib.hid (xp_to x 3 3 6 rfl))).mono ?_
  rintro e w3 ⟨rfl, hC3⟩
  have hs3 : w2.heap.size ≤ w3.heap.size := by have := hC3.size; (try simp only [alloc_size, setRow_size] at this); omega
  replace hv : Fe w3 (vb) (vo) (v0) := (Sets.others hC3 hv (by omega))
  replace ha : Fe w3 (ab) (ao) ((xp x 1)) := (Sets.others hC3 ha (by omega))
  replace h7 : Fe w3 (w.heap.size + 1 + 1) (0) (0) := (Sets.others hC3 h7 (by omega))
  replace h6 : Fe w3 (w.heap.size + 1) (0) ((xp x 3)) := (Sets.others hC3 h6 (by omega))
  replace h5 : Fe w3 (w.heap.size) (0) ((xp x 6)) := (Sets.fe' hC3 h5)
  have hBw3 : Hid (Below w.heap.size w w3) := Lib.hid (hBw2.out.trans (hC3.below (by omega) hBw2.out.size))
  clear hC3
  go_wp2_with fail
  refine (square_fe (w.heap.size) 0 (w.heap.size) 0 _ _ _ h5 h5 (xp x 12) (Lib.hid (xp_to x 6 6 12 rfl))).mono ?_
  rintro e w4 ⟨rfl, hC4⟩
  have hs4 : w3.heap.size ≤ w4.heap.size := by have := hC4.size; (try simp only [alloc_size, setRow_size] at this); omega
  replace hv : Fe w4 (vb) (vo) (v0) := (Sets.others hC4 hv (by omega))
  replace ha : Fe w4 (ab) (ao) ((xp x 1)) := (Sets.others hC4 ha (by omega))
  replace h7 : Fe w4 (w.heap.size + 1 + 1) (0) (0) := (Sets.others hC4 h7 (by omega))
  replace h6 : Fe w4 (w.heap.size + 1) (0) ((xp x 3)) := (Sets.others hC4 h6 (by omega))
  replace h5 : Fe w4 (w.heap.size) (0) ((xp x 12)) := (Sets.fe' hC4 h5)
  have hBw4 : Hid (Below w.heap.size w w4) := Lib.hid (hBw3.out.trans (hC4.below (by omega) hBw3.out.size))
  clear hC4
  go_wp2_with fail
  refine (mul_fe (w.heap.size) 0 (w.heap.size + 1) 0 (w.heap.size) 0 _ _ _ _ h5 h6 h5 (xp x 15) (Lib.hid (xp_to x 3 12 15 rfl))).mono ?_
  rintro e w5 ⟨rfl, hC5⟩
  have hs5 : w4.heap.size ≤ w5.heap.size := by have := hC5.size; (try simp only [alloc_size, setRow_size] at this); omega
  replace hv : Fe w5 (vb) (vo) (v0) := (Sets.others hC5 hv (by omega))
  replace ha : Fe w5 (ab) (ao) ((xp x 1)) := (Sets.others hC5 ha (by omega))
  replace h7 : Fe w5 (w.heap.size + 1 + 1) (0) (0) := (Sets.others hC5 h7 (by omega))
  replace h6 : Fe w5 (w.heap.size + 1) (0) ((xp x 3)) := (Sets.others hC5 h6 (by omega))
  replace h5 : Fe w5 (w.heap.size) (0) ((xp x 15)) := (Sets.fe' hC5 h5)
  have hBw5 : Hid (Below w.heap.size w w5) := Lib.hid (hBw4.out.trans (hC5.below (by omega) hBw4.out.size))
  clear hC5
  go_wp2_with fail
  refine (square_fe (w.heap.size) 0 (w.heap.size) 0 _ _ _ h5 h5 (xp x 30) (Lib.hid (xp_to x 15 15 30 rfl))).mono ?_
  rintro e w6 ⟨rfl, hC6⟩
  have hs6 : w5.heap.size ≤ w6.heap.size := by have := hC6.size; (try simp only [alloc_size, setRow_size] at this); omega
  replace hv : Fe w6 (vb) (vo) (v0) := (Sets.others hC6 hv (by omega))
  replace ha : Fe w6 (ab) (ao) ((xp x 1)) := (Sets.others hC6 ha (by omega))
  replace h7 : Fe w6 (w.heap.size + 1 + 1) (0) (0) := (Sets.others hC6 h7 (by omega))
  replace h6 : Fe w6 (w.heap.size + 1) (0) ((xp x 3)) := (Sets.others hC6 h6 (by omega))
  replace h5 : Fe w6 (w.heap.size) (0) ((xp x 30)) := (Sets.fe' hC6 h5)
  have hBw6 : Hid (Below w.heap.size w w6) := Lib.hid (hBw5.out.trans (hC6.below (by omega) hBw5.out.size))
  clear hC6
  go_wp2_with fail
  refine (mul_fe (w.heap.size) 0 ab ao (w.heap.size) 0 _ _ _ _ h5 ha h5 (xp x 31) (Lib.hid (xp_to x 1 30 31 rfl))).mono ?_
  rintro e w7 ⟨rfl, hC7⟩
  have hs7 : w6.heap.size ≤ w7.heap.size := by have := hC7.size; (try simp only [alloc_size, setRow_size] at this); omega
  replace hv : Fe w7 (vb) (vo) (v0) := (Sets.others hC7 hv (by omega))
  replace ha : Fe w7 (ab) (ao) ((xp x 1)) := (Sets.others hC7 ha (by omega))
  replace h7 : Fe w7 (w.heap.size + 1 + 1) (0) (0) := (Sets.others hC7 h7 (by omega))
  replace h6 : Fe w7 (w.heap.size + 1) (0) ((xp x 3)) := (Sets.others hC7 h6 (by omega))
  replace h5 : Fe w7 (w.heap.size) (0) ((xp x 31)) := (Sets.fe' hC7 h5)
  have hBw7 : Hid (Below w.heap.size w w7) := Lib.hid (hBw6.out.trans (hC7.below (by omega) hBw6.out.size))
  clear hC7
  go_wp2_with fail
  refine (squareN_fe (w.heap.size + 1) 0 (w.heap.size) 0 _ _ 5 (by omega) _ h6 h5 (xp x 992) (Lib.hid (xp_of x 31 (2 ^ 5) 992 rfl))).mono ?_
  rintro e w8 ⟨rfl, hC8⟩
  have hs8 : w7.heap.size ≤ w8.heap.size := by have := hC8.size; (try simp only [alloc_size, setRow_size] at this); omega
  replace hv : Fe w8 (vb) (vo) (v0) := (Sets.others hC8 hv (by omega))
  replace ha : Fe w8 (ab) (ao) ((xp x 1)) := (Sets.others hC8 ha (by omega))
  replace h7 : Fe w8 (w.heap.size + 1 + 1) (0) (0) := (Sets.others hC8 h7 (by omega))
  replace h5 : Fe w8 (w.heap.size) (0) ((xp x 31)) := (Sets.others hC8 h5 (by omega))
  replace h6 : Fe w8 (w.heap.size + 1) (0) ((xp x 992)) := (Sets.fe' hC8 h6)
  have hBw8 : Hid (Below w.heap.size w w8) := Lib.hid (hBw7.out.trans (hC8.below (by omega) hBw7.out.size))
  clear hC8
  go_wp2_with fail
  refine (mul_fe (w.heap.size + 1) 0 (w.heap.size + 1) 0 (w.heap.size) 0 _ _ _ _ h6 h6 h5 (xp x 1023) (Lib.hid (xp_to x 992 31 1023 rfl))).mono ?_
  rintro e w9 ⟨rfl, hC9⟩
  have hs9 : w8.heap.size ≤ w9.heap.size := by have := hC9.size; (try simp only [alloc_size, setRow_size] at this); omega
  replace hv : Fe w9 (vb) (vo) (v0) := (Sets.others hC9 hv (by omega))
  replace ha : Fe w9 (ab) (ao) ((xp x 1)) := (Sets.others hC9 ha (by omega))
  replace h7 : Fe w9 (w.heap.size + 1 + 1) (0) (0) := (Sets.others hC9 h7 (by omega))
  replace h5 : Fe w9 (w.heap.size) (0) ((xp x 31)) := (Sets.others hC9 h5 (by omega))
  replace h6 : Fe w9 (w.heap.size + 1) (0) ((xp x 1023)) := (Sets.fe' hC9 h6)
  have hBw9 : Hid (Below w.heap.size w w9) := Lib.hid (hBw8.out.trans (hC9.below (by omega) hBw8.out.size))
  clear hC9
  go_wp2_with fail
  refine (squareN_fe (w.heap.size + 1 + 1) 0 (w.heap.size + 1) 0 _ _ 5 (by omega) _ h7 h6 (xp x 32736) (Lib.hid (xp_of x 1023 (2 ^ 5) 32736 rfl))).mono ?_
  rintro e w10 ⟨rfl, hC10⟩
  have hs10 : w9.heap.size ≤ w10.heap.size := by have := hC10.size; (try simp only [alloc_size, setRow_size] at this); omega
  replace hv : Fe w10 (vb) (vo) (v0) := (Sets.others hC10 hv (by omega))
  replace ha : Fe w10 (ab) (ao) ((xp x 1)) := (Sets.others hC10 ha (by omega))
  replace h5 : Fe w10 (w.heap.size) (0) ((xp x 31)) := (Sets.others hC10 h5 (by omega))
  replace h6 : Fe w10 (w.heap.size + 1) (0) ((xp x 1023)) := (Sets.others hC10 h6 (by omega))
  replace h7 : Fe w10 (w.heap.size + 1 + 1) (0) ((xp x 32736)) := (Sets.fe' hC10 h7)
  have hBw10 : Hid (Below w.heap.size w w10) := Lib.hid (hBw9.out.trans (hC10.below (by omega) hBw9.out.size))
  clear hC10
  go_wp2_with fail
  refine (mul_fe (w.heap.size) 0 (w.heap.size + 1 + 1) 0 (w.heap.size) 0 _ _ _ _ h5 h7 h5 (xp x 32767) (Lib.hid (xp_to x 32736 31 32767 rfl))).mono ?_
  rintro e w11 ⟨rfl, hC11⟩
  have hs11 : w10.heap.size ≤ w11.heap.size := by have := hC11.size; (try simp only [alloc_size, setRow_size] at this); omega
  replace hv : Fe w11 (vb) (vo) (v0) := (Sets.others hC11 hv (by omega))
  replace ha : Fe w11 (ab) (ao) ((xp x 1)) := (Sets.others hC11 ha (by omega))
  replace h6 : Fe w11 (w.heap.size + 1) (0) ((xp x 1023)) := (Sets.others hC11 h6 (by omega))
  replace h7 : Fe w11 (w.heap.size + 1 + 1) (0) ((xp x 32736)) := (Sets.others hC11 h7 (by omega))
  replace h5 : Fe w11 (w.heap.size) (0) ((xp x 32767)) := (Sets.fe' hC11 h5)
  have hBw11 : Hid (Below w.heap.size w w11) := Lib.hid (hBw10.out.trans (hC11.below (by omega) hBw10.out.size))
  clear hC11
  go_wp2_with fail
  refine (squareN_fe (w.heap.size + 1 + 1) 0 (w.heap.size) 0 _ _ 15 (by omega) _ h7 h5 (xp x 1073709056) (Lib.hid (xp_of x 32767 (2 ^ 15) 1073709056 rfl))).mono ?_
  rintro e w12 ⟨rfl, hC12⟩
  have hs12 : w11.heap.size ≤ w12.heap.size := by have := hC12.size; (try simp only [alloc_size, setRow_size] at this); omega
  replace hv : Fe w12 (vb) (vo) (v0) := (Sets.others hC12 hv (by omega))
  replace ha : Fe w12 (ab) (ao) ((xp x 1)) := (Sets.others hC12 ha (by omega))
  replace h6 : Fe w12 (w.heap.size + 1) (0) ((xp x 1023)) := (Sets.others hC12 h6 (by omega))
  replace h5 : Fe w12 (w.heap.size) (0) ((xp x 32767)) := (Sets.others hC12 h5 (by omega))
  replace h7 : Fe w12 (w.heap.size + 1 + 1) (0) ((xp x 1073709056)) := (Sets.fe' hC12 h7)
  have hBw12 : Hid (Below w.heap.size w w12) := Lib.hid (hBw11.out.trans (hC12.below (by omega) hBw11.out.size))
  clear hC12
  go_wp2_with fail
  refine (mul_fe (w.heap.size + 1 + 1) 0 (w.heap.size + 1 + 1) 0 (w.heap.size) 0 _ _ _ _ h7 h7 h5 (xp x 1073741823) (Lib.hid (xp_to x 1073709056 32767 1073741823 rfl))).mono ?_
  rintro e w13 ⟨rfl, hC13⟩
  have hs13 : w12.heap.size ≤ w13.heap.size := by have := hC13.size; (try simp only [alloc_size, setRow_size] at this); omega
  replace hv : Fe w13 (vb) (vo) (v0) := (Sets.others hC13 hv (by omega))
  replace ha : Fe w13 (ab) (ao) ((xp x 1)) := (Sets.others hC13 ha (by omega))
  replace h6 : Fe w13 (w.heap.size + 1) (0) ((xp x 1023)) := (Sets.others hC13 h6 (by omega))
  replace h5 : Fe w13 (w.heap.size) (0) ((xp x 32767)) := (Sets.others hC13 h5 (by omega))
  replace h7 : Fe w13 (w.heap.size + 1 + 1) (0) ((xp x 1073741823)) := (Sets.fe' hC13 h7)
  have hBw13 : Hid (Below w.heap.size w w13) := Lib.hid (hBw12.out.trans (hC13.below (by omega) hBw12.out.size))
  clear hC13
  go_wp2_with fail
  refine (squareN_fe (w.heap.size) 0 (w.heap.size + 1 + 1) 0 _ _ 30 (by omega) _ h5 h7 (xp x 1152921503533105152) (Lib.hid (xp_of x 1073741823 (2 ^ 30) 1152921503533105152 rfl))).mono ?_
  rintro e w14 ⟨rfl, hC14⟩
  have hs14 : w13.heap.size ≤ w14.heap.size := by have := hC14.size; (try simp only [alloc_size, setRow_size] at this); omega
  replace hv : Fe w14 (vb) (vo) (v0) := (Sets.others hC14 hv (by omega))
  replace ha : Fe w14 (ab) (ao) ((xp x 1)) := (Sets.others hC14 ha (by omega))
  replace h6 : Fe w14 (w.heap.size + 1) (0) ((xp x 1023)) := (Sets.others hC14 h6 (by omega))
  replace h7 : Fe w14 (w.heap.size + 1 + 1) (0) ((xp x 1073741823)) := (Sets.others hC14 h7 (by omega))
  replace h5 : Fe w14 (w.heap.size) (0) ((xp x 1152921503533105152)) := (Sets.fe' hC14 h5)
  have hBw14 : Hid (Below w.heap.size w w14) := Lib.hid (hBw13.out.trans (hC14.below (by omega) hBw13.out.size))
  clear hC14
  go_wp2_with fail
  refine (mul_fe (w.heap.size) 0 (w.heap.size) 0 (w.heap.size + 1 + 1) 0 _ _ _ _ h5 h5 h7 (xp x 1152921504606846975) (Lib.hid (xp_to x 1152921503533105152 1073741823 1152921504606846975 rfl))).mono ?_
  rintro e w15 ⟨rfl, hC15⟩
  have hs15 : w14.heap.size ≤ w15.heap.size := by have := hC15.size; (try simp only [alloc_size, setRow_size] at this); omega
  replace hv : Fe w15 (vb) (vo) (v0) := (Sets.others hC15 hv (by omega))
  replace ha : Fe w15 (ab) (ao) ((xp x 1)) := (Sets.others hC15 ha (by omega))
  replace h6 : Fe w15 (w.heap.size + 1) (0) ((xp x 1023)) := (Sets.others hC15 h6 (by omega))
  replace h7 : Fe w15 (w.heap.size + 1 + 1) (0) ((xp x 1073741823)) := (Sets.others hC15 h7 (by omega))
  replace h5 : Fe w15 (w.heap.size) (0) ((xp x 1152921504606846975)) := (Sets.fe' hC15 h5)
  have hBw15 : Hid (Below w.heap.size w w15) := Lib.hid (hBw14.out.trans (hC15.below (by omega) hBw14.out.size))
  clear hC15
  go_wp2_with fail
  refine (squareN_fe (w.heap.size + 1 + 1) 0 (w.heap.size) 0 _ _ 60 (by omega) _ h7 h5 (xp x 1329227995784915871750885555673497600) (Lib.hid (xp_of x 1152921504606846975 (2 ^ 60) 1329227995784915871750885555673497600 rfl))).mono ?_
  rintro e w16 ⟨rfl, hC16⟩
  have hs16 : w15.heap.size ≤ w16.heap.size := by have := hC16.size; (try simp only [alloc_size, setRow_size] at this); omega
  replace hv : Fe w16 (vb) (vo) (v0) := (Sets.others hC16 hv (by omega))
  replace ha : Fe w16 (ab) (ao) ((xp x 1)) := (Sets.others hC16 ha (by omega))
  replace h6 : Fe w16 (w.heap.size + 1) (0) ((xp x 1023)) := (Sets.others hC16 h6 (by omega))
  replace h5 : Fe w16 (w.heap.size) (0) ((xp x 1152921504606846975)) := (Sets.others hC16 h5 (by omega))
  replace h7 : Fe w16 (w.heap.size + 1 + 1) (0) ((xp x 1329227995784915871750885555673497600)) := (Sets.fe' hC16 h7)
  have hBw16 : Hid (Below w.heap.size w w16) := Lib.hid (hBw15.out.trans (hC16.below (by omega) hBw15.out.size))
  clear hC16
  go_wp2_with fail
  refine (mul_fe (w.heap.size + 1 + 1) 0 (w.heap.size + 1 + 1) 0 (w.heap.size) 0 _ _ _ _ h7 h7 h5 (xp x 1329227995784915872903807060280344575) (Lib.hid (xp_to x 1329227995784915871750885555673497600 1152921504606846975 1329227995784915872903807060280344575 rfl))).mono ?_
  rintro e w17 ⟨rfl, hC17⟩
  have hs17 : w16.heap.size ≤ w17.heap.size := by have := hC17.size; (try simp only [alloc_size, setRow_size] at this); omega
  replace hv : Fe w17 (vb) (vo) (v0) := (Sets.others hC17 hv (by omega))
  replace ha : Fe w17 (ab) (ao) ((xp x 1)) := (Sets.others hC17 ha (by omega))
  replace h6 : Fe w17 (w.heap.size + 1) (0) ((xp x 1023)) := (Sets.others hC17 h6 (by omega))
  replace h5 : Fe w17 (w.heap.size) (0) ((xp x 1152921504606846975)) := (Sets.others hC17 h5 (by omega))
  replace h7 : Fe w17 (w.heap.size + 1 + 1) (0) ((xp x 1329227995784915872903807060280344575)) := (Sets.fe' hC17 h7)
  have hBw17 : Hid (Below w.heap.size w w17) := Lib.hid (hBw16.out.trans (hC17.below (by omega) hBw16.out.size))
  clear hC17
  go_wp2_with fail
  refine (squareN_fe (w.heap.size) 0 (w.heap.size + 1 + 1) 0 _ _ 120 (by omega) _ h5 h7 (xp x 1766847064778384329583297500742918514498255901090703085217799141012275200) (Lib.hid (xp_of x 1329227995784915872903807060280344575 (2 ^ 120) 1766847064778384329583297500742918514498255901090703085217799141012275200 rfl))).mono ?_
  rintro e w18 ⟨rfl, hC18⟩
  have hs18 : w17.heap.size ≤ w18.heap.size := by have := hC18.size; (try simp only [alloc_size, setRow_size] at this); omega
  replace hv : Fe w18 (vb) (vo) (v0) := (Sets.others hC18 hv (by omega))
  replace ha : Fe w18 (ab) (ao) ((xp x 1)) := (Sets.others hC18 ha (by omega))
  replace h6 : Fe w18 (w.heap.size + 1) (0) ((xp x 1023)) := (Sets.others hC18 h6 (by omega))
  replace h7 : Fe w18 (w.heap.size + 1 + 1) (0) ((xp x 1329227995784915872903807060280344575)) := (Sets.others hC18 h7 (by omega))
  replace h5 : Fe w18 (w.heap.size) (0) ((xp x 1766847064778384329583297500742918514498255901090703085217799141012275200)) := (Sets.fe' hC18 h5)
  have hBw18 : Hid (Below w.heap.size w w18) := Lib.hid (hBw17.out.trans (hC18.below (by omega) hBw17.out.size))
  clear hC18
  go_wp2_with fail
  refine (mul_fe (w.heap.size) 0 (w.heap.size) 0 (w.heap.size + 1 + 1) 0 _ _ _ _ h5 h5 h7 (xp x 1766847064778384329583297500742918515827483896875618958121606201292619775) (Lib.hid (xp_to x 1766847064778384329583297500742918514498255901090703085217799141012275200 1329227995784915872903807060280344575 1766847064778384329583297500742918515827483896875618958121606201292619775 rfl))).mono ?_
  rintro e w19 ⟨rfl, hC19⟩
  have hs19 : w18.heap.size ≤ w19.heap.size := by have := hC19.size; (try simp only [alloc_size, setRow_size] at this); omega
  replace hv : Fe w19 (vb) (vo) (v0) := (Sets.others hC19 hv (by omega))
  replace ha : Fe w19 (ab) (ao) ((xp x 1)) := (Sets.others hC19 ha (by omega))
  replace h6 : Fe w19 (w.heap.size + 1) (0) ((xp x 1023)) := (Sets.others hC19 h6 (by omega))
  replace h7 : Fe w19 (w.heap.size + 1 + 1) (0) ((xp x 1329227995784915872903807060280344575)) := (Sets.others hC19 h7 (by omega))
  replace h5 : Fe w19 (w.heap.size) (0) ((xp x 1766847064778384329583297500742918515827483896875618958121606201292619775)) := (Sets.fe' hC19 h5)
  have hBw19 : Hid (Below w.heap.size w w19) := Lib.hid (hBw18.out.trans (hC19.below (by omega) hBw18.out.size))
  clear hC19
  go_wp2_with fail
  refine (squareN_fe (w.heap.size) 0 (w.heap.size) 0 _ _ 10 (by omega) _ h5 h5 (xp x 1809251394333065553493296640760748560207343510400633813116524750123642649600) (Lib.hid (xp_of x 1766847064778384329583297500742918515827483896875618958121606201292619775 (2 ^ 10) 1809251394333065553493296640760748560207343510400633813116524750123642649600 rfl))).mono ?_
  rintro e w20 ⟨rfl, hC20⟩
  have hs20 : w19.heap.size ≤ w20.heap.size := by have := hC20.size; (try simp only [alloc_size, setRow_size] at this); omega
  replace hv : Fe w20 (vb) (vo) (v0) := (Sets.others hC20 hv (by omega))
  replace ha : Fe w20 (ab) (ao) ((xp x 1)) := (Sets.others hC20 ha (by omega))
  replace h6 : Fe w20 (w.heap.size + 1) (0) ((xp x 1023)) := (Sets.others hC20 h6 (by omega))
  replace h7 : Fe w20 (w.heap.size + 1 + 1) (0) ((xp x 1329227995784915872903807060280344575)) := (Sets.others hC20 h7 (by omega))
  replace h5 : Fe w20 (w.heap.size) (0) ((xp x 1809251394333065553493296640760748560207343510400633813116524750123642649600)) := (Sets.fe' hC20 h5)
  have hBw20 : Hid (Below w.heap.size w w20) := Lib.hid (hBw19.out.trans (hC20.below (by omega) hBw19.out.size))
  clear hC20
  go_wp2_with fail
  refine (mul_fe (w.heap.size) 0 (w.heap.size) 0 (w.heap.size + 1) 0 _ _ _ _ h5 h5 h6 (xp x 1809251394333065553493296640760748560207343510400633813116524750123642650623) (Lib.hid (xp_to x 1809251394333065553493296640760748560207343510400633813116524750123642649600 1023 1809251394333065553493296640760748560207343510400633813116524750123642650623 rfl))).mono ?_
  rintro e w21 ⟨rfl, hC21⟩
  have hs21 : w20.heap.size ≤ w21.heap.size := by have := hC21.size; (try simp only [alloc_size, setRow_size] at this); omega
  replace hv : Fe w21 (vb) (vo) (v0) := (Sets.others hC21 hv (by omega))
  replace ha : Fe w21 (ab) (ao) ((xp x 1)) := (Sets.others hC21 ha (by omega))
  replace h6 : Fe w21 (w.heap.size + 1) (0) ((xp x 1023)) := (Sets.others hC21 h6 (by omega))
  replace h7 : Fe w21 (w.heap.size + 1 + 1) (0) ((xp x 1329227995784915872903807060280344575)) := (Sets.others hC21 h7 (by omega))
  replace h5 : Fe w21 (w.heap.size) (0) ((xp x 1809251394333065553493296640760748560207343510400633813116524750123642650623)) := (Sets.fe' hC21 h5)
  have hBw21 : Hid (Below w.heap.size w w21) := Lib.hid (hBw20.out.trans (hC21.below (by omega) hBw20.out.size))
  clear hC21
  go_wp2_with fail
  refine (squareN_fe (w.heap.size) 0 (w.heap.size) 0 _ _ 2 (by omega) _ h5 h5 (xp x 7237005577332262213973186563042994240829374041602535252466099000494570602492) (Lib.hid (xp_of x 1809251394333065553493296640760748560207343510400633813116524750123642650623 (2 ^ 2) 7237005577332262213973186563042994240829374041602535252466099000494570602492 rfl))).mono ?_
  rintro e w22 ⟨rfl, hC22⟩
  have hs22 : w21.heap.size ≤ w22.heap.size := by have := hC22.size; (try simp only [alloc_size, setRow_size] at this); omega
  replace hv : Fe w22 (vb) (vo) (v0) := (Sets.others hC22 hv (by omega))
  replace ha : Fe w22 (ab) (ao) ((xp x 1)) := (Sets.others hC22 ha (by omega))
  replace h6 : Fe w22 (w.heap.size + 1) (0) ((xp x 1023)) := (Sets.others hC22 h6 (by omega))
  replace h7 : Fe w22 (w.heap.size + 1 + 1) (0) ((xp x 1329227995784915872903807060280344575)) := (Sets.others hC22 h7 (by omega))
  replace h5 : Fe w22 (w.heap.size) (0) ((xp x 7237005577332262213973186563042994240829374041602535252466099000494570602492)) := (Sets.fe' hC22 h5)
  have hBw22 : Hid (Below w.heap.size w w22) := Lib.hid (hBw21.out.trans (hC22.below (by omega) hBw21.out.size))
  clear hC22
  go_wp2_with fail
  refine (mul_fe vb vo (w.heap.size) 0 ab ao _ _ _ _ hv h5 ha (xp x 7237005577332262213973186563042994240829374041602535252466099000494570602493) (Lib.hid (xp_to x 7237005577332262213973186563042994240829374041602535252466099000494570602492 1 7237005577332262213973186563042994240829374041602535252466099000494570602493 rfl))).mono ?_
  rintro e wf ⟨rfl, hC⟩
  go_wp2
  go_ret
  exact ⟨rfl, Sets.ahead hBw22.out hC hvl⟩

end Go.Proofs.YtmabidcocdflkaaDoor
