/- laws.FnExactPointSubtract returns true for all p and q, feZero, feOne and sqrtM1 being laid by the program's text. -/
import Derived.BigRegion
import Derived.ChangeBears2
import Derived.ChangeKeysEq
import Derived.ChangeVars
import Derived.Deep.DeepCutAuto
import Derived.Deep.Draws
import Derived.Deep.Fields
import Derived.Deep.MidRow
import Derived.Deep.Quiet
import Derived.Deep.RegionHeld3
import Derived.Deep.WholeRow
import Derived.Great.BuildSlice
import Derived.LaidMore
import Derived.Laws.AppendOwn
import Derived.Laws.Bits64b
import Derived.Laws.CopyOwn
import Derived.Laws.CopyRow
import Derived.Laws.Externs
import Derived.Laws.StructEq
import Derived.Laws.Tables
import Derived.Lib.Hide
import Derived.LoopTactic
import Derived.OpenShut
import Derived.ProofKit
import Derived.StillTailTactics
import Derived.Stop.Joined
import Derived.Test.YtcenlinpbpbpoaaDoorCards
import Derived.Test.YtcenlinpbpbpoaaDoorProg
import Derived.Test.YtcenlinpbpbpoaaDoorRows
import Derived.Test.YtcenlinpbpbpoaaDoorTie
import Derived.WalkKit
import Derived.WalkLawsBesides
import Derived.WalkSpells
import Derived.WideKeyArgs
import Derived.Test.YtcenlinpbpbpoaaDoorKC0
import Derived.Test.YtcenlinpbpbpoaaDoorKC1
import Derived.Test.YtcenlinpbpbpoaaDoorKC14
import Derived.Test.YtcenlinpbpbpoaaDoorKC2
import Derived.Test.YtcenlinpbpbpoaaDoorKC3
import Derived.Test.YtcenlinpbpbpoaaDoorKC4
import Derived.Test.YtcenlinpbpbpoaaDoorKC5
import Derived.Test.YtcenlinpbpbpoaaDoorKHF1
import Derived.Test.YtcenlinpbpbpoaaDoorKHF3
import Derived.Test.YtcenlinpbpbpoaaDoorKHGr
import Derived.Test.YtcenlinpbpbpoaaDoorKHPI
import Derived.Test.YtcenlinpbpbpoaaDoorKHPO
import Derived.Test.YtcenlinpbpbpoaaDoorKHPP
import Derived.Test.YtcenlinpbpbpoaaDoorKHPS
import Derived.Test.YtcenlinpbpbpoaaDoorKHS8
import Derived.Test.YtcenlinpbpbpoaaDoorKHSQ
import Derived.Test.YtcenlinpbpbpoaaDoorKHSQB
import Derived.Test.YtcenlinpbpbpoaaDoorKHSQN
import Derived.Test.YtcenlinpbpbpoaaDoorKHSRD
import Derived.Test.YtcenlinpbpbpoaaDoorKHU1
import Derived.Test.YtcenlinpbpbpoaaDoorKHUM
import Derived.Test.YtcenlinpbpbpoaaDoorKHUN
import Derived.Test.YtcenlinpbpbpoaaDoorKHUS
import Derived.Test.YtcenlinpbpbpoaaDoorKHUSR
import Derived.Test.YtcenlinpbpbpoaaDoorKHUSe
import Derived.Test.YtcenlinpbpbpoaaDoorKL0
import Derived.Test.YtcenlinpbpbpoaaDoorKL1
import Derived.Test.YtcenlinpbpbpoaaDoorKL2
import Derived.Test.YtcenlinpbpbpoaaDoorKL3
import Derived.Test.YtcenlinpbpbpoaaDoorKL4
namespace Go.Proofs.YtcenlinpbpbpoaaDoor
set_option maxRecDepth 4000
set_option linter.unusedSimpArgs false
set_option linter.unusedVariables false
section
theorem s_more {d x1 y1 x2 y2 z1 z2 E : Fp} (hE : d * (x1 * x2 * (y1 * y2)) = E) : z1 * z2 * (z1 * z2) + d * (x1 * z1 * (x2 * z2) * (y1 * z1 * (y2 * z2))) = z1 * z2 * (z1 * z2) * (1 + E) := by grind
theorem s_less {d x1 y1 x2 y2 z1 z2 E : Fp} (hE : d * (x1 * x2 * (y1 * y2)) = E) : z1 * z2 * (z1 * z2) - d * (x1 * z1 * (x2 * z2) * (y1 * z1 * (y2 * z2))) = z1 * z2 * (z1 * z2) * (1 - E) := by grind
theorem s_x {x1 y1 x2 y2 z1 z2 E x3 L : Fp} (hx : x3 * (1 + E) = x1 * y2 + x2 * y1) : z1 * z2 * ((x1 * z1 * (y2 * z2) + x2 * z2 * (y1 * z1)) * L) = x3 * (z1 * z2 * (z1 * z2) * (1 + E) * L) := by grind
theorem s_y {x1 y1 x2 y2 z1 z2 E y3 M : Fp} (hy : y3 * (1 - E) = y1 * y2 + x1 * x2) : z1 * z2 * ((x1 * z1 * (x2 * z2) + y1 * z1 * (y2 * z2)) * M) = y3 * (M * (z1 * z2 * (z1 * z2) * (1 - E))) := by grind
/-- the reference's sum -/
theorem Rp.added {P Q : CP} {X1 Y1 Z1 X2 Y2 Z2 : Fp} (h1 : Rp P X1 Y1 Z1) (h2 : Rp Q X2 Y2 Z2) :
    Rp (P.add Q) (Z1 * Z2 * ((X1 * Y2 + X2 * Y1) * (Z1 * Z2 * (Z1 * Z2) - fp dN * (X1 * X2 * (Y1 * Y2))))) (Z1 * Z2 * ((X1 * X2 + Y1 * Y2) * (Z1 * Z2 * (Z1 * Z2) + fp dN * (X1 * X2 * (Y1 * Y2)))))
      ((Z1 * Z2 * (Z1 * Z2) + fp dN * (X1 * X2 * (Y1 * Y2))) * (Z1 * Z2 * (Z1 * Z2) - fp dN * (X1 * X2 * (Y1 * Y2)))) := by
  obtain ⟨z1, rfl, rfl⟩ := h1
  obtain ⟨z2, rfl, rfl⟩ := h2
  have hE : fp dN * (P.x * Q.x * (P.y * Q.y)) = P.e Q := rfl
  have zz : Z1 * Z2 ≠ 0 := fne_mul z1 z2
  rw [s_more hE, s_less hE]
  refine ⟨fne_mul (fne_mul (fne_mul zz zz) (P.np Q)) (fne_mul (fne_mul zz zz) (P.nm Q)), ?_, ?_⟩
  · exact s_x (P.hx Q)
  · exact s_y (P.hy Q)
end

section
open Go.RowKit
set_option maxHeartbeats 16000000 in
theorem sadded (P Q : CP) (X Y Z X2 Y2 Z2 : Fp) (rA : Rp P X Y Z) (rB : Rp Q X2 Y2 Z2) (w : World) :
    Calls Tryd.prog 37 #[.agg (ptC X.val Y.val Z.val), .agg (ptC X2.val Y2.val Z2.val)] w fun e w' => ∃ x y z : Fp, e = .returned (.agg (ptC x.val y.val z.val)) ∧ Below w.heap.size w w' ∧ Rp (P.add Q) x y z := by
  go_enter Tryd.func37, Tryd.ntmps37
  go_wp2_with fail
  refine (prime_any _).mono ?_
  rintro e w1 ⟨rfl, hC1⟩
  have hs1 : w.heap.size + 1 + 1 + 1 ≤ w1.heap.size := by have := hC1.size; (try simp only [alloc_size, setRow_size] at this); omega
  replace h2 : w1.heap[w.heap.size]? = some (.cells (ptC (X.val) (Y.val) (Z.val)) 45 (0, 0)) := (heap_call hC1 (heap_old _ (heap_old _ (heap_new_at _ _ _ rfl))))
  replace h3 : w1.heap[w.heap.size + 1]? = some (.cells (ptC (X2.val) (Y2.val) (Z2.val)) 45 (0, 0)) := (heap_call hC1 (heap_old _ (heap_new_at _ _ _ (by simp only [alloc_size, setRow_size]))))
  replace h4 : w1.heap[w.heap.size + 1 + 1]? = some (.cells (z12) 45 (0, 0)) := (heap_call hC1 (heap_new_at _ _ _ (by simp only [alloc_size, setRow_size])))
  have hBw1 : Hid (Below w.heap.size w w1) := Lib.hid (below_call (below_alloc (below_alloc (below_alloc (Below.refl _ w) _) _) _) hC1)
  clear hC1
  go_wp2_with (first
    | ((with_reducible refine at_store 5 ?_); refine wpList_store_row rfl 43 _ _ rfl (w1.heap.size) (numC pF) rfl rfl 43 (z4) (heap_new_at _ _ _ rfl) (infoNum_of (numC pF) (numC_size _)) (z4_size.trans (numC_size _).symm) (numC_one _) ?_)
    | ((with_reducible refine at_dst 16 ?_); refine wpList_load_part rfl 43 _ rfl (w.heap.size) 8 rfl _ _ _ (heap_row _ (by omega) (heap_old _ h2)) (numC (Z.val)) (part_z _ _ _) underNum rfl (infoNum_of _ (numC_size _)) ?_)
    | ((with_reducible refine at_dst 18 ?_); refine wpList_load_part rfl 43 _ rfl (w.heap.size + 1) 8 rfl _ _ _ (heap_row _ (by omega) (heap_old _ h3)) (numC (Z2.val)) (part_z _ _ _) underNum rfl (infoNum_of _ (numC_size _)) ?_)
    | ((with_reducible refine at_dst 19 ?_); refine wpList_load_row rfl 43 _ rfl (w1.heap.size) rfl 43 (numC pF) (0, 0) _ (setRow_heap _ _ _ _ _ _ (heap_new_at _ _ _ rfl)) underNum rfl (infoNum_of (numC pF) (numC_size _)) ?_))
  obtain ⟨R1, qR1⟩ : ∃ uu : Fp, uu = Z * Z2 := ⟨_, rfl⟩
  have HR1 := Lib.hid qR1; clear qR1
  refine (stimes_ff Z Z2 R1 HR1 _).mono ?_
  rintro e w2 ⟨rfl, hC2⟩
  have hs2 : w1.heap.size + 1 ≤ w2.heap.size := by have := hC2.size; (try simp only [alloc_size, setRow_size] at this); omega
  replace h2 : w2.heap[w.heap.size]? = some (.cells (ptC (X.val) (Y.val) (Z.val)) 45 (0, 0)) := (heap_call hC2 (heap_row _ (by omega) (heap_old _ h2)))
  replace h3 : w2.heap[w.heap.size + 1]? = some (.cells (ptC (X2.val) (Y2.val) (Z2.val)) 45 (0, 0)) := (heap_call hC2 (heap_row _ (by omega) (heap_old _ h3)))
  replace h4 : w2.heap[w.heap.size + 1 + 1]? = some (.cells (z12) 45 (0, 0)) := (heap_call hC2 (heap_row _ (by omega) (heap_old _ h4)))
  replace h5 : w2.heap[w1.heap.size]? = some (.cells (numC pF) 43 (0, 0)) := (heap_call hC2 (setRow_heap _ _ _ _ _ _ (heap_new_at _ _ _ rfl)))
  have hBw2 : Hid (Below w.heap.size w w2) := Lib.hid (below_call (below_setRow (below_alloc hBw1.out _) (by omega) _) hC2)
  clear hC2
  go_wp2_with (first
    | ((with_reducible refine at_store 6 ?_); refine wpList_store_row rfl 43 _ _ rfl (w2.heap.size) (numC R1.val) rfl rfl 43 (z4) (heap_new_at _ _ _ rfl) (infoNum_of (numC R1.val) (numC_size _)) (z4_size.trans (numC_size _).symm) (numC_one _) ?_)
    | ((with_reducible refine at_dst 22 ?_); refine wpList_load_part rfl 43 _ rfl (w.heap.size) 0 rfl _ _ _ (heap_row _ (by omega) (heap_old _ h2)) (numC (X.val)) (part_x _ _ _) underNum rfl (infoNum_of _ (numC_size _)) ?_)
    | ((with_reducible refine at_dst 24 ?_); refine wpList_load_part rfl 43 _ rfl (w.heap.size + 1) 0 rfl _ _ _ (heap_row _ (by omega) (heap_old _ h3)) (numC (X2.val)) (part_x _ _ _) underNum rfl (infoNum_of _ (numC_size _)) ?_)
    | ((with_reducible refine at_dst 25 ?_); refine wpList_load_row rfl 43 _ rfl (w1.heap.size) rfl 43 (numC pF) (0, 0) _ (heap_row _ (by omega) (heap_old _ h5)) underNum rfl (infoNum_of (numC pF) (numC_size _)) ?_))
  obtain ⟨R2, qR2⟩ : ∃ uu : Fp, uu = X * X2 := ⟨_, rfl⟩
  have HR2 := Lib.hid qR2; clear qR2
  refine (stimes_ff X X2 R2 HR2 _).mono ?_
  rintro e w3 ⟨rfl, hC3⟩
  have hs3 : w2.heap.size + 1 ≤ w3.heap.size := by have := hC3.size; (try simp only [alloc_size, setRow_size] at this); omega
  replace h2 : w3.heap[w.heap.size]? = some (.cells (ptC (X.val) (Y.val) (Z.val)) 45 (0, 0)) := (heap_call hC3 (heap_row _ (by omega) (heap_old _ h2)))
  replace h3 : w3.heap[w.heap.size + 1]? = some (.cells (ptC (X2.val) (Y2.val) (Z2.val)) 45 (0, 0)) := (heap_call hC3 (heap_row _ (by omega) (heap_old _ h3)))
  replace h4 : w3.heap[w.heap.size + 1 + 1]? = some (.cells (z12) 45 (0, 0)) := (heap_call hC3 (heap_row _ (by omega) (heap_old _ h4)))
  replace h5 : w3.heap[w1.heap.size]? = some (.cells (numC pF) 43 (0, 0)) := (heap_call hC3 (heap_row _ (by omega) (heap_old _ h5)))
  replace h6 : w3.heap[w2.heap.size]? = some (.cells (numC R1.val) 43 (0, 0)) := (heap_call hC3 (setRow_heap _ _ _ _ _ _ (heap_new_at _ _ _ rfl)))
  have hBw3 : Hid (Below w.heap.size w w3) := Lib.hid (below_call (below_setRow (below_alloc hBw2.out _) (by omega) _) hC3)
  clear hC3
  go_wp2_with (first
    | ((with_reducible refine at_store 7 ?_); refine wpList_store_row rfl 43 _ _ rfl (w3.heap.size) (numC R2.val) rfl rfl 43 (z4) (heap_new_at _ _ _ rfl) (infoNum_of (numC R2.val) (numC_size _)) (z4_size.trans (numC_size _).symm) (numC_one _) ?_)
    | ((with_reducible refine at_dst 28 ?_); refine wpList_load_part rfl 43 _ rfl (w.heap.size) 4 rfl _ _ _ (heap_row _ (by omega) (heap_old _ h2)) (numC (Y.val)) (part_y _ _ _) underNum rfl (infoNum_of _ (numC_size _)) ?_)
    | ((with_reducible refine at_dst 30 ?_); refine wpList_load_part rfl 43 _ rfl (w.heap.size + 1) 4 rfl _ _ _ (heap_row _ (by omega) (heap_old _ h3)) (numC (Y2.val)) (part_y _ _ _) underNum rfl (infoNum_of _ (numC_size _)) ?_)
    | ((with_reducible refine at_dst 31 ?_); refine wpList_load_row rfl 43 _ rfl (w1.heap.size) rfl 43 (numC pF) (0, 0) _ (heap_row _ (by omega) (heap_old _ h5)) underNum rfl (infoNum_of (numC pF) (numC_size _)) ?_))
  obtain ⟨R3, qR3⟩ : ∃ uu : Fp, uu = Y * Y2 := ⟨_, rfl⟩
  have HR3 := Lib.hid qR3; clear qR3
  refine (stimes_ff Y Y2 R3 HR3 _).mono ?_
  rintro e w4 ⟨rfl, hC4⟩
  have hs4 : w3.heap.size + 1 ≤ w4.heap.size := by have := hC4.size; (try simp only [alloc_size, setRow_size] at this); omega
  replace h2 : w4.heap[w.heap.size]? = some (.cells (ptC (X.val) (Y.val) (Z.val)) 45 (0, 0)) := (heap_call hC4 (heap_row _ (by omega) (heap_old _ h2)))
  replace h3 : w4.heap[w.heap.size + 1]? = some (.cells (ptC (X2.val) (Y2.val) (Z2.val)) 45 (0, 0)) := (heap_call hC4 (heap_row _ (by omega) (heap_old _ h3)))
  replace h4 : w4.heap[w.heap.size + 1 + 1]? = some (.cells (z12) 45 (0, 0)) := (heap_call hC4 (heap_row _ (by omega) (heap_old _ h4)))
  replace h5 : w4.heap[w1.heap.size]? = some (.cells (numC pF) 43 (0, 0)) := (heap_call hC4 (heap_row _ (by omega) (heap_old _ h5)))
  replace h6 : w4.heap[w2.heap.size]? = some (.cells (numC R1.val) 43 (0, 0)) := (heap_call hC4 (heap_row _ (by omega) (heap_old _ h6)))
  replace h7 : w4.heap[w3.heap.size]? = some (.cells (numC R2.val) 43 (0, 0)) := (heap_call hC4 (setRow_heap _ _ _ _ _ _ (heap_new_at _ _ _ rfl)))
  have hBw4 : Hid (Below w.heap.size w w4) := Lib.hid (below_call (below_setRow (below_alloc hBw3.out _) (by omega) _) hC4)
  clear hC4
  go_wp2_with (first
    | ((with_reducible refine at_store 8 ?_); refine wpList_store_row rfl 43 _ _ rfl (w4.heap.size) (numC R3.val) rfl rfl 43 (z4) (heap_new_at _ _ _ rfl) (infoNum_of (numC R3.val) (numC_size _)) (z4_size.trans (numC_size _).symm) (numC_one _) ?_))
  try simp only [Act.put]
  refine wp_named ?_
  intro w5 ew5
  have hs5 : w4.heap.size + 1 ≤ w5.heap.size := by rw [ew5]; (try simp only [alloc_size, setRow_size]); omega
  replace h2 : w5.heap[w.heap.size]? = some (.cells (ptC (X.val) (Y.val) (Z.val)) 45 (0, 0)) := by rw [ew5]; exact (heap_row _ (by omega) (heap_old _ h2))
  replace h3 : w5.heap[w.heap.size + 1]? = some (.cells (ptC (X2.val) (Y2.val) (Z2.val)) 45 (0, 0)) := by rw [ew5]; exact (heap_row _ (by omega) (heap_old _ h3))
  replace h4 : w5.heap[w.heap.size + 1 + 1]? = some (.cells (z12) 45 (0, 0)) := by rw [ew5]; exact (heap_row _ (by omega) (heap_old _ h4))
  replace h5 : w5.heap[w1.heap.size]? = some (.cells (numC pF) 43 (0, 0)) := by rw [ew5]; exact (heap_row _ (by omega) (heap_old _ h5))
  replace h6 : w5.heap[w2.heap.size]? = some (.cells (numC R1.val) 43 (0, 0)) := by rw [ew5]; exact (heap_row _ (by omega) (heap_old _ h6))
  replace h7 : w5.heap[w3.heap.size]? = some (.cells (numC R2.val) 43 (0, 0)) := by rw [ew5]; exact (heap_row _ (by omega) (heap_old _ h7))
  replace h8 : w5.heap[w4.heap.size]? = some (.cells (numC R3.val) 43 (0, 0)) := by rw [ew5]; exact (setRow_heap _ _ _ _ _ _ (heap_new_at _ _ _ rfl))
  have hBw5 : Hid (Below w.heap.size w w5) := Lib.hid (by rw [ew5]; exact (below_setRow (below_alloc hBw4.out _) (by omega) _))
  clear ew5
  obtain ⟨R4, qR4⟩ : ∃ uu : Fp, uu = R2 * R3 := ⟨_, rfl⟩
  have HR4 := Lib.hid qR4; clear qR4
  obtain ⟨R5, qR5⟩ : ∃ uu : Fp, uu = (fp dN) * R4 := ⟨_, rfl⟩
  have HR5 := Lib.hid qR5; clear qR5
  go_cut [9] (fun s9 wx => ∃ g9 : Nat, s9 = .pointer (some ⟨g9, 0, none⟩) ∧ Hid (w5.heap.size ≤ g9) ∧ Hid (wx.heap[g9]? = some (.cells (numC R5.val) 43 (0, 0))) ∧ Hid (wx.heap[w.heap.size]? = some (.cells (ptC (X.val) (Y.val) (Z.val)) 45 (0, 0))) ∧ Hid (wx.heap[w.heap.size + 1]? = some (.cells (ptC (X2.val) (Y2.val) (Z2.val)) 45 (0, 0))) ∧ Hid (wx.heap[w.heap.size + 1 + 1]? = some (.cells (z12) 45 (0, 0))) ∧ Hid (wx.heap[w1.heap.size]? = some (.cells (numC pF) 43 (0, 0))) ∧ Hid (wx.heap[w2.heap.size]? = some (.cells (numC R1.val) 43 (0, 0))) ∧ Hid (wx.heap[w3.heap.size]? = some (.cells (numC R2.val) 43 (0, 0))) ∧ Hid (wx.heap[w4.heap.size]? = some (.cells (numC R3.val) 43 (0, 0))) ∧ Hid (Below w.heap.size w wx) ∧ Hid (w5.heap.size ≤ wx.heap.size))
  case first =>
    refine wp_region_noPanic ?_
    refine wp_region_held_drew (S := Keep (w5.heap.size) w5) (by kernel_rfl) (Keep.start _ _) ?_
    intro hS
    obtain ⟨w6, ed⟩ : ∃ u : World, u = w5.drew := ⟨_, rfl⟩
    rw [← ed] at hS ⊢
    have xh2 : w6.heap[w.heap.size]? = some (.cells (ptC (X.val) (Y.val) (Z.val)) 45 (0, 0)) := by rw [ed]; exact h2
    have xh3 : w6.heap[w.heap.size + 1]? = some (.cells (ptC (X2.val) (Y2.val) (Z2.val)) 45 (0, 0)) := by rw [ed]; exact h3
    have xh4 : w6.heap[w.heap.size + 1 + 1]? = some (.cells (z12) 45 (0, 0)) := by rw [ed]; exact h4
    have xh5 : w6.heap[w1.heap.size]? = some (.cells (numC pF) 43 (0, 0)) := by rw [ed]; exact h5
    have xh6 : w6.heap[w2.heap.size]? = some (.cells (numC R1.val) 43 (0, 0)) := by rw [ed]; exact h6
    have xh7 : w6.heap[w3.heap.size]? = some (.cells (numC R2.val) 43 (0, 0)) := by rw [ed]; exact h7
    have xh8 : w6.heap[w4.heap.size]? = some (.cells (numC R3.val) 43 (0, 0)) := by rw [ed]; exact h8
    clear ed
    have hSz := hS.size
    clear xh2
    clear xh3
    clear xh4
    clear xh5
    clear xh6
    clear xh7
    clear xh8
    refine takeAtK (i := 1) (v := .agg (numC R2.val)) rfl (some 34) rfl (take_row rfl _ _ rfl (w3.heap.size) rfl _ _ _ h7 (Nat.ne_of_lt (heap_lt h7)) underNum rfl (infoNum_of (numC R2.val) (numC_size _))) hS ?_
    simp only [Act.put, sia, sc0, scs]
    refine takeAtK (i := 2) (v := .agg (numC R3.val)) rfl (some 35) rfl (take_row rfl _ _ rfl (w4.heap.size) rfl _ _ _ h8 (Nat.ne_of_lt (heap_lt h8)) underNum rfl (infoNum_of (numC R3.val) (numC_size _))) hS ?_
    simp only [Act.put, sia, sc0, scs]
    refine takeAtK (i := 3) (v := .agg (numC pF)) rfl (some 36) rfl (take_row rfl _ _ rfl (w1.heap.size) rfl _ _ _ h5 (Nat.ne_of_lt (heap_lt h5)) underNum rfl (infoNum_of (numC pF) (numC_size _))) hS ?_
    simp only [Act.put, sia, sc0, scs]
    refine takeAtK (i := 5) (v := .agg (numC pF)) rfl (some 38) rfl (take_row rfl _ _ rfl (w1.heap.size) rfl _ _ _ h5 (Nat.ne_of_lt (heap_lt h5)) underNum rfl (infoNum_of (numC pF) (numC_size _))) hS ?_
    simp only [Act.put, sia, sc0, scs]
    refine wpAnyH_ready (rs := [0, 7]) (by kernel_rfl) (by simp) ?_
    refine (AllReadyH.cons rfl ?_ (AllReadyH.cons rfl ?_ AllReadyH.nil))
    · intro K hK
      refine ready_call rfl (some 33) rfl 50 #[] (by go_simp) ?_
      refine (curve_ff _).mono ?_
      rintro e w7 ⟨rfl, hC⟩
      refine ⟨_, rfl, ?_⟩
      simp only [Act.put, sia, sc0, scs]
      have hS := hS.call hC
      have hz7 := hC.size
      clear hC
      refine hK.out _ _ hS ?_
      clear hK K
      intro _
      have hSz := hS.size
      refine wpAnyH_ready (rs := [4, 7]) (by kernel_rfl) (by simp) ?_
      refine (AllReadyH.cons rfl ?_ (AllReadyH.cons rfl ?_ AllReadyH.nil))
      · intro K hK
        refine ready_call rfl (some 37) rfl 45 #[.agg (numC R2.val), .agg (numC R3.val), .agg (numC pF)] (by go_simp) ?_
        refine (stimes_ff R2 R3 R4 HR4 _).mono ?_
        rintro e w8 ⟨rfl, hC⟩
        refine ⟨_, rfl, ?_⟩
        simp only [Act.put, sia, sc0, scs]
        have hS := hS.call hC
        have hz8 := hC.size
        clear hC
        refine hK.out _ _ hS ?_
        clear hK K
        intro _
        have hSz := hS.size
        refine wpAnyH_ready (rs := [6, 7]) (by kernel_rfl) (by simp) ?_
        refine (AllReadyH.cons rfl ?_ (AllReadyH.cons rfl ?_ AllReadyH.nil))
        · intro K hK
          refine ready_call rfl (some 39) rfl 45 #[.agg (numC (fp dN).val), .agg (numC R4.val), .agg (numC pF)] (by go_simp) ?_
          refine (stimes_ff (fp dN) R4 R5 HR5 _).mono ?_
          rintro e w9 ⟨rfl, hC⟩
          refine ⟨_, rfl, ?_⟩
          simp only [Act.put, sia, sc0, scs]
          have hS := hS.call hC
          have hz9 := hC.size
          clear hC
          refine hK.out _ _ hS ?_
          clear hK K
          intro _
          have hSz := hS.size
          refine wpAnyH_ready (rs := [7]) (by kernel_rfl) (by simp) ?_
          refine (AllReadyH.cons rfl ?_ AllReadyH.nil)
          intro K hK
          refine ready_run rfl (some 9) rfl (.pointer (some ⟨w9.heap.size, 0, none⟩)) (w9.alloc (.cells z4 43)) (by go_simp; try rfl) ?_
          simp only [Act.put, sia, sc0, scs]
          obtain ⟨w10, ea⟩ : ∃ u : World, u = w9.alloc (.cells z4 43) := ⟨_, rfl⟩
          rw [← ea]
          have hS := hS.alloc (.cells z4 43)
          rw [← ea] at hS
          have hz10 : w9.heap.size + 1 ≤ w10.heap.size := by rw [ea, alloc_size]; omega
          have hy10 : w5.heap.size ≤ w9.heap.size := hSz
          have xh9 : w10.heap[w9.heap.size]? = some (.cells (z4) 43 (0, 0)) := by rw [ea]; exact heap_new_at _ _ _ rfl
          clear ea
          refine hK.out _ _ hS ?_
          clear hK K
          intro _
          have hSz := hS.size
          refine wpAnyH_ready (rs := [8]) (by kernel_rfl) (by simp) ?_
          refine (AllReadyH.cons rfl ?_ AllReadyH.nil)
          intro K hK
          rw [if_pos (by rfl)]
          refine wp_store_row 43 _ _ rfl (w9.heap.size) (numC R5.val) rfl rfl 43 (z4) xh9 (infoNum_of (numC R5.val) (numC_size _)) (z4_size.trans (numC_size _).symm) (numC_one _) ?_
          refine put_at (none) rfl ?_
          simp only [Act.put, sia, sc0, scs]
          have xh9 : (w10.setRow (w9.heap.size) (numC R5.val)).heap[w9.heap.size]? = some (.cells (numC R5.val) 43 (0, 0)) := (setRow_heap _ _ _ _ _ _ xh9)
          have hS := hS.storeNew (numC R5.val) (show w5.heap.size ≤ w9.heap.size by omega)
          generalize w10.setRow (w9.heap.size) (numC R5.val) = w11 at *
          refine hK.out _ _ hS ?_
          clear hK K
          intro _
          have hSz := hS.size
          refine wpAnyH_done (by kernel_rfl) ?_ _
          refine NoPanic.normal ?_
          have hsz := hS.size
          have h2 : w11.heap[w.heap.size]? = some (.cells (ptC (X.val) (Y.val) (Z.val)) 45 (0, 0)) := hS.old h2 (Nat.ne_of_lt (heap_lt h2))
          have h3 : w11.heap[w.heap.size + 1]? = some (.cells (ptC (X2.val) (Y2.val) (Z2.val)) 45 (0, 0)) := hS.old h3 (Nat.ne_of_lt (heap_lt h3))
          have h4 : w11.heap[w.heap.size + 1 + 1]? = some (.cells (z12) 45 (0, 0)) := hS.old h4 (Nat.ne_of_lt (heap_lt h4))
          have h5 : w11.heap[w1.heap.size]? = some (.cells (numC pF) 43 (0, 0)) := hS.old h5 (Nat.ne_of_lt (heap_lt h5))
          have h6 : w11.heap[w2.heap.size]? = some (.cells (numC R1.val) 43 (0, 0)) := hS.old h6 (Nat.ne_of_lt (heap_lt h6))
          have h7 : w11.heap[w3.heap.size]? = some (.cells (numC R2.val) 43 (0, 0)) := hS.old h7 (Nat.ne_of_lt (heap_lt h7))
          have h8 : w11.heap[w4.heap.size]? = some (.cells (numC R3.val) 43 (0, 0)) := hS.old h8 (Nat.ne_of_lt (heap_lt h8))
          have h9 := xh9
          have hBw11 : Hid (Below w.heap.size w w11) := Lib.hid (hBw5.out.trans (hS.below (by omega) hBw5.out.size))
          clear hS
          go_wp2_with fail
          go_meet
          exact ⟨w9.heap.size, rfl, Lib.hid (show w5.heap.size ≤ w9.heap.size by omega), Lib.hid h9, Lib.hid h2, Lib.hid h3, Lib.hid h4, Lib.hid h5, Lib.hid h6, Lib.hid h7, Lib.hid h8, Lib.hid hBw11.out, Lib.hid (show w5.heap.size ≤ w11.heap.size by omega)⟩
        · intro K hK
          refine ready_run rfl (some 9) rfl (.pointer (some ⟨w8.heap.size, 0, none⟩)) (w8.alloc (.cells z4 43)) (by go_simp; try rfl) ?_
          simp only [Act.put, sia, sc0, scs]
          obtain ⟨w13, ea⟩ : ∃ u : World, u = w8.alloc (.cells z4 43) := ⟨_, rfl⟩
          rw [← ea]
          have hS := hS.alloc (.cells z4 43)
          rw [← ea] at hS
          have hz13 : w8.heap.size + 1 ≤ w13.heap.size := by rw [ea, alloc_size]; omega
          have hy13 : w5.heap.size ≤ w8.heap.size := hSz
          have xh9 : w13.heap[w8.heap.size]? = some (.cells (z4) 43 (0, 0)) := by rw [ea]; exact heap_new_at _ _ _ rfl
          clear ea
          refine hK.out _ _ hS ?_
          clear hK K
          intro _
          have hSz := hS.size
          refine wpAnyH_ready (rs := [6]) (by kernel_rfl) (by simp) ?_
          refine (AllReadyH.cons rfl ?_ AllReadyH.nil)
          intro K hK
          refine ready_call rfl (some 39) rfl 45 #[.agg (numC (fp dN).val), .agg (numC R4.val), .agg (numC pF)] (by go_simp) ?_
          refine (stimes_ff (fp dN) R4 R5 HR5 _).mono ?_
          rintro e w14 ⟨rfl, hC⟩
          refine ⟨_, rfl, ?_⟩
          simp only [Act.put, sia, sc0, scs]
          have xh9 : w14.heap[w8.heap.size]? = some (.cells (z4) 43 (0, 0)) := (heap_call hC xh9)
          have hS := hS.call hC
          have hz14 := hC.size
          clear hC
          refine hK.out _ _ hS ?_
          clear hK K
          intro _
          have hSz := hS.size
          refine wpAnyH_ready (rs := [8]) (by kernel_rfl) (by simp) ?_
          refine (AllReadyH.cons rfl ?_ AllReadyH.nil)
          intro K hK
          rw [if_pos (by rfl)]
          refine wp_store_row 43 _ _ rfl (w8.heap.size) (numC R5.val) rfl rfl 43 (z4) xh9 (infoNum_of (numC R5.val) (numC_size _)) (z4_size.trans (numC_size _).symm) (numC_one _) ?_
          refine put_at (none) rfl ?_
          simp only [Act.put, sia, sc0, scs]
          have xh9 : (w14.setRow (w8.heap.size) (numC R5.val)).heap[w8.heap.size]? = some (.cells (numC R5.val) 43 (0, 0)) := (setRow_heap _ _ _ _ _ _ xh9)
          have hS := hS.storeNew (numC R5.val) (show w5.heap.size ≤ w8.heap.size by omega)
          generalize w14.setRow (w8.heap.size) (numC R5.val) = w15 at *
          refine hK.out _ _ hS ?_
          clear hK K
          intro _
          have hSz := hS.size
          refine wpAnyH_done (by kernel_rfl) ?_ _
          refine NoPanic.normal ?_
          have hsz := hS.size
          have h2 : w15.heap[w.heap.size]? = some (.cells (ptC (X.val) (Y.val) (Z.val)) 45 (0, 0)) := hS.old h2 (Nat.ne_of_lt (heap_lt h2))
          have h3 : w15.heap[w.heap.size + 1]? = some (.cells (ptC (X2.val) (Y2.val) (Z2.val)) 45 (0, 0)) := hS.old h3 (Nat.ne_of_lt (heap_lt h3))
          have h4 : w15.heap[w.heap.size + 1 + 1]? = some (.cells (z12) 45 (0, 0)) := hS.old h4 (Nat.ne_of_lt (heap_lt h4))
          have h5 : w15.heap[w1.heap.size]? = some (.cells (numC pF) 43 (0, 0)) := hS.old h5 (Nat.ne_of_lt (heap_lt h5))
          have h6 : w15.heap[w2.heap.size]? = some (.cells (numC R1.val) 43 (0, 0)) := hS.old h6 (Nat.ne_of_lt (heap_lt h6))
          have h7 : w15.heap[w3.heap.size]? = some (.cells (numC R2.val) 43 (0, 0)) := hS.old h7 (Nat.ne_of_lt (heap_lt h7))
          have h8 : w15.heap[w4.heap.size]? = some (.cells (numC R3.val) 43 (0, 0)) := hS.old h8 (Nat.ne_of_lt (heap_lt h8))
          have h9 := xh9
          have hBw15 : Hid (Below w.heap.size w w15) := Lib.hid (hBw5.out.trans (hS.below (by omega) hBw5.out.size))
          clear hS
          go_wp2_with fail
          go_meet
          exact ⟨w8.heap.size, rfl, Lib.hid (show w5.heap.size ≤ w8.heap.size by omega), Lib.hid h9, Lib.hid h2, Lib.hid h3, Lib.hid h4, Lib.hid h5, Lib.hid h6, Lib.hid h7, Lib.hid h8, Lib.hid hBw15.out, Lib.hid (show w5.heap.size ≤ w15.heap.size by omega)⟩
      · intro K hK
        refine ready_run rfl (some 9) rfl (.pointer (some ⟨w7.heap.size, 0, none⟩)) (w7.alloc (.cells z4 43)) (by go_simp; try rfl) ?_
        simp only [Act.put, sia, sc0, scs]
        obtain ⟨w17, ea⟩ : ∃ u : World, u = w7.alloc (.cells z4 43) := ⟨_, rfl⟩
        rw [← ea]
        have hS := hS.alloc (.cells z4 43)
        rw [← ea] at hS
        have hz17 : w7.heap.size + 1 ≤ w17.heap.size := by rw [ea, alloc_size]; omega
        have hy17 : w5.heap.size ≤ w7.heap.size := hSz
        have xh9 : w17.heap[w7.heap.size]? = some (.cells (z4) 43 (0, 0)) := by rw [ea]; exact heap_new_at _ _ _ rfl
        clear ea
        refine hK.out _ _ hS ?_
        clear hK K
        intro _
        have hSz := hS.size
        refine wpAnyH_ready (rs := [4]) (by kernel_rfl) (by simp) ?_
        refine (AllReadyH.cons rfl ?_ AllReadyH.nil)
        intro K hK
        refine ready_call rfl (some 37) rfl 45 #[.agg (numC R2.val), .agg (numC R3.val), .agg (numC pF)] (by go_simp) ?_
        refine (stimes_ff R2 R3 R4 HR4 _).mono ?_
        rintro e w18 ⟨rfl, hC⟩
        refine ⟨_, rfl, ?_⟩
        simp only [Act.put, sia, sc0, scs]
        have xh9 : w18.heap[w7.heap.size]? = some (.cells (z4) 43 (0, 0)) := (heap_call hC xh9)
        have hS := hS.call hC
        have hz18 := hC.size
        clear hC
        refine hK.out _ _ hS ?_
        clear hK K
        intro _
        have hSz := hS.size
        refine wpAnyH_ready (rs := [6]) (by kernel_rfl) (by simp) ?_
        refine (AllReadyH.cons rfl ?_ AllReadyH.nil)
        intro K hK
        refine ready_call rfl (some 39) rfl 45 #[.agg (numC (fp dN).val), .agg (numC R4.val), .agg (numC pF)] (by go_simp) ?_
        refine (stimes_ff (fp dN) R4 R5 HR5 _).mono ?_
        rintro e w19 ⟨rfl, hC⟩
        refine ⟨_, rfl, ?_⟩
        simp only [Act.put, sia, sc0, scs]
        have xh9 : w19.heap[w7.heap.size]? = some (.cells (z4) 43 (0, 0)) := (heap_call hC xh9)
        have hS := hS.call hC
        have hz19 := hC.size
        clear hC
        refine hK.out _ _ hS ?_
        clear hK K
        intro _
        have hSz := hS.size
        refine wpAnyH_ready (rs := [8]) (by kernel_rfl) (by simp) ?_
        refine (AllReadyH.cons rfl ?_ AllReadyH.nil)
        intro K hK
        rw [if_pos (by rfl)]
        refine wp_store_row 43 _ _ rfl (w7.heap.size) (numC R5.val) rfl rfl 43 (z4) xh9 (infoNum_of (numC R5.val) (numC_size _)) (z4_size.trans (numC_size _).symm) (numC_one _) ?_
        refine put_at (none) rfl ?_
        simp only [Act.put, sia, sc0, scs]
        have xh9 : (w19.setRow (w7.heap.size) (numC R5.val)).heap[w7.heap.size]? = some (.cells (numC R5.val) 43 (0, 0)) := (setRow_heap _ _ _ _ _ _ xh9)
        have hS := hS.storeNew (numC R5.val) (show w5.heap.size ≤ w7.heap.size by omega)
        generalize w19.setRow (w7.heap.size) (numC R5.val) = w20 at *
        refine hK.out _ _ hS ?_
        clear hK K
        intro _
        have hSz := hS.size
        refine wpAnyH_done (by kernel_rfl) ?_ _
        refine NoPanic.normal ?_
        have hsz := hS.size
        have h2 : w20.heap[w.heap.size]? = some (.cells (ptC (X.val) (Y.val) (Z.val)) 45 (0, 0)) := hS.old h2 (Nat.ne_of_lt (heap_lt h2))
        have h3 : w20.heap[w.heap.size + 1]? = some (.cells (ptC (X2.val) (Y2.val) (Z2.val)) 45 (0, 0)) := hS.old h3 (Nat.ne_of_lt (heap_lt h3))
        have h4 : w20.heap[w.heap.size + 1 + 1]? = some (.cells (z12) 45 (0, 0)) := hS.old h4 (Nat.ne_of_lt (heap_lt h4))
        have h5 : w20.heap[w1.heap.size]? = some (.cells (numC pF) 43 (0, 0)) := hS.old h5 (Nat.ne_of_lt (heap_lt h5))
        have h6 : w20.heap[w2.heap.size]? = some (.cells (numC R1.val) 43 (0, 0)) := hS.old h6 (Nat.ne_of_lt (heap_lt h6))
        have h7 : w20.heap[w3.heap.size]? = some (.cells (numC R2.val) 43 (0, 0)) := hS.old h7 (Nat.ne_of_lt (heap_lt h7))
        have h8 : w20.heap[w4.heap.size]? = some (.cells (numC R3.val) 43 (0, 0)) := hS.old h8 (Nat.ne_of_lt (heap_lt h8))
        have h9 := xh9
        have hBw20 : Hid (Below w.heap.size w w20) := Lib.hid (hBw5.out.trans (hS.below (by omega) hBw5.out.size))
        clear hS
        go_wp2_with fail
        go_meet
        exact ⟨w7.heap.size, rfl, Lib.hid (show w5.heap.size ≤ w7.heap.size by omega), Lib.hid h9, Lib.hid h2, Lib.hid h3, Lib.hid h4, Lib.hid h5, Lib.hid h6, Lib.hid h7, Lib.hid h8, Lib.hid hBw20.out, Lib.hid (show w5.heap.size ≤ w20.heap.size by omega)⟩
    · intro K hK
      refine ready_run rfl (some 9) rfl (.pointer (some ⟨w6.heap.size, 0, none⟩)) (w6.alloc (.cells z4 43)) (by go_simp; try rfl) ?_
      simp only [Act.put, sia, sc0, scs]
      obtain ⟨w22, ea⟩ : ∃ u : World, u = w6.alloc (.cells z4 43) := ⟨_, rfl⟩
      rw [← ea]
      have hS := hS.alloc (.cells z4 43)
      rw [← ea] at hS
      have hz22 : w6.heap.size + 1 ≤ w22.heap.size := by rw [ea, alloc_size]; omega
      have hy22 : w5.heap.size ≤ w6.heap.size := hSz
      have xh9 : w22.heap[w6.heap.size]? = some (.cells (z4) 43 (0, 0)) := by rw [ea]; exact heap_new_at _ _ _ rfl
      clear ea
      refine hK.out _ _ hS ?_
      clear hK K
      intro _
      have hSz := hS.size
      refine wpAnyH_ready (rs := [0]) (by kernel_rfl) (by simp) ?_
      refine (AllReadyH.cons rfl ?_ AllReadyH.nil)
      intro K hK
      refine ready_call rfl (some 33) rfl 50 #[] (by go_simp) ?_
      refine (curve_ff _).mono ?_
      rintro e w23 ⟨rfl, hC⟩
      refine ⟨_, rfl, ?_⟩
      simp only [Act.put, sia, sc0, scs]
      have xh9 : w23.heap[w6.heap.size]? = some (.cells (z4) 43 (0, 0)) := (heap_call hC xh9)
      have hS := hS.call hC
      have hz23 := hC.size
      clear hC
      refine hK.out _ _ hS ?_
      clear hK K
      intro _
      have hSz := hS.size
      refine wpAnyH_ready (rs := [4]) (by kernel_rfl) (by simp) ?_
      refine (AllReadyH.cons rfl ?_ AllReadyH.nil)
      intro K hK
      refine ready_call rfl (some 37) rfl 45 #[.agg (numC R2.val), .agg (numC R3.val), .agg (numC pF)] (by go_simp) ?_
      refine (stimes_ff R2 R3 R4 HR4 _).mono ?_
      rintro e w24 ⟨rfl, hC⟩
      refine ⟨_, rfl, ?_⟩
      simp only [Act.put, sia, sc0, scs]
      have xh9 : w24.heap[w6.heap.size]? = some (.cells (z4) 43 (0, 0)) := (heap_call hC xh9)
      have hS := hS.call hC
      have hz24 := hC.size
      clear hC
      refine hK.out _ _ hS ?_
      clear hK K
      intro _
      have hSz := hS.size
      refine wpAnyH_ready (rs := [6]) (by kernel_rfl) (by simp) ?_
      refine (AllReadyH.cons rfl ?_ AllReadyH.nil)
      intro K hK
      refine ready_call rfl (some 39) rfl 45 #[.agg (numC (fp dN).val), .agg (numC R4.val), .agg (numC pF)] (by go_simp) ?_
      refine (stimes_ff (fp dN) R4 R5 HR5 _).mono ?_
      rintro e w25 ⟨rfl, hC⟩
      refine ⟨_, rfl, ?_⟩
      simp only [Act.put, sia, sc0, scs]
      have xh9 : w25.heap[w6.heap.size]? = some (.cells (z4) 43 (0, 0)) := (heap_call hC xh9)
      have hS := hS.call hC
      have hz25 := hC.size
      clear hC
      refine hK.out _ _ hS ?_
      clear hK K
      intro _
      have hSz := hS.size
      refine wpAnyH_ready (rs := [8]) (by kernel_rfl) (by simp) ?_
      refine (AllReadyH.cons rfl ?_ AllReadyH.nil)
      intro K hK
      rw [if_pos (by rfl)]
      refine wp_store_row 43 _ _ rfl (w6.heap.size) (numC R5.val) rfl rfl 43 (z4) xh9 (infoNum_of (numC R5.val) (numC_size _)) (z4_size.trans (numC_size _).symm) (numC_one _) ?_
      refine put_at (none) rfl ?_
      simp only [Act.put, sia, sc0, scs]
      have xh9 : (w25.setRow (w6.heap.size) (numC R5.val)).heap[w6.heap.size]? = some (.cells (numC R5.val) 43 (0, 0)) := (setRow_heap _ _ _ _ _ _ xh9)
      have hS := hS.storeNew (numC R5.val) (show w5.heap.size ≤ w6.heap.size by omega)
      generalize w25.setRow (w6.heap.size) (numC R5.val) = w26 at *
      refine hK.out _ _ hS ?_
      clear hK K
      intro _
      have hSz := hS.size
      refine wpAnyH_done (by kernel_rfl) ?_ _
      refine NoPanic.normal ?_
      have hsz := hS.size
      have h2 : w26.heap[w.heap.size]? = some (.cells (ptC (X.val) (Y.val) (Z.val)) 45 (0, 0)) := hS.old h2 (Nat.ne_of_lt (heap_lt h2))
      have h3 : w26.heap[w.heap.size + 1]? = some (.cells (ptC (X2.val) (Y2.val) (Z2.val)) 45 (0, 0)) := hS.old h3 (Nat.ne_of_lt (heap_lt h3))
      have h4 : w26.heap[w.heap.size + 1 + 1]? = some (.cells (z12) 45 (0, 0)) := hS.old h4 (Nat.ne_of_lt (heap_lt h4))
      have h5 : w26.heap[w1.heap.size]? = some (.cells (numC pF) 43 (0, 0)) := hS.old h5 (Nat.ne_of_lt (heap_lt h5))
      have h6 : w26.heap[w2.heap.size]? = some (.cells (numC R1.val) 43 (0, 0)) := hS.old h6 (Nat.ne_of_lt (heap_lt h6))
      have h7 : w26.heap[w3.heap.size]? = some (.cells (numC R2.val) 43 (0, 0)) := hS.old h7 (Nat.ne_of_lt (heap_lt h7))
      have h8 : w26.heap[w4.heap.size]? = some (.cells (numC R3.val) 43 (0, 0)) := hS.old h8 (Nat.ne_of_lt (heap_lt h8))
      have h9 := xh9
      have hBw26 : Hid (Below w.heap.size w w26) := Lib.hid (hBw5.out.trans (hS.below (by omega) hBw5.out.size))
      clear hS
      go_wp2_with fail
      go_meet
      exact ⟨w6.heap.size, rfl, Lib.hid (show w5.heap.size ≤ w6.heap.size by omega), Lib.hid h9, Lib.hid h2, Lib.hid h3, Lib.hid h4, Lib.hid h5, Lib.hid h6, Lib.hid h7, Lib.hid h8, Lib.hid hBw26.out, Lib.hid (show w5.heap.size ≤ w26.heap.size by omega)⟩
  case rest =>
    obtain ⟨g9, rfl, Hg9, Hh9, Hh2, Hh3, Hh4, Hh5, Hh6, Hh7, Hh8, hBw28, Hsz28⟩ := hcut
    obtain ⟨w28, rfl⟩ : ∃ u : World, u = wc := ⟨_, rfl⟩
    have hgl9 := Hg9.out
    have h9 := Hh9.out
    have hgu9 := heap_lt h9
    have h2 := Hh2.out
    have h3 := Hh3.out
    have h4 := Hh4.out
    have h5 := Hh5.out
    have h6 := Hh6.out
    have h7 := Hh7.out
    have h8 := Hh8.out
    have hsz28 := Hsz28.out
    go_wp2_with (first
      | ((with_reducible refine at_dst 40 ?_); refine wpList_load_row rfl 43 _ rfl (w2.heap.size) rfl 43 (numC R1.val) (0, 0) _ h6 underNum rfl (infoNum_of (numC R1.val) (numC_size _)) ?_)
      | ((with_reducible refine at_dst 41 ?_); refine wpList_load_row rfl 43 _ rfl (w2.heap.size) rfl 43 (numC R1.val) (0, 0) _ h6 underNum rfl (infoNum_of (numC R1.val) (numC_size _)) ?_)
      | ((with_reducible refine at_dst 42 ?_); refine wpList_load_row rfl 43 _ rfl (w1.heap.size) rfl 43 (numC pF) (0, 0) _ h5 underNum rfl (infoNum_of (numC pF) (numC_size _)) ?_))
    obtain ⟨R6, qR6⟩ : ∃ uu : Fp, uu = R1 * R1 := ⟨_, rfl⟩
    have HR6 := Lib.hid qR6; clear qR6
    refine (stimes_ff R1 R1 R6 HR6 _).mono ?_
    rintro e w29 ⟨rfl, hC29⟩
    have hs29 : w28.heap.size ≤ w29.heap.size := by have := hC29.size; (try simp only [alloc_size, setRow_size] at this); omega
    replace h2 : w29.heap[w.heap.size]? = some (.cells (ptC (X.val) (Y.val) (Z.val)) 45 (0, 0)) := (heap_call hC29 h2)
    replace h3 : w29.heap[w.heap.size + 1]? = some (.cells (ptC (X2.val) (Y2.val) (Z2.val)) 45 (0, 0)) := (heap_call hC29 h3)
    replace h4 : w29.heap[w.heap.size + 1 + 1]? = some (.cells (z12) 45 (0, 0)) := (heap_call hC29 h4)
    replace h5 : w29.heap[w1.heap.size]? = some (.cells (numC pF) 43 (0, 0)) := (heap_call hC29 h5)
    replace h6 : w29.heap[w2.heap.size]? = some (.cells (numC R1.val) 43 (0, 0)) := (heap_call hC29 h6)
    replace h7 : w29.heap[w3.heap.size]? = some (.cells (numC R2.val) 43 (0, 0)) := (heap_call hC29 h7)
    replace h8 : w29.heap[w4.heap.size]? = some (.cells (numC R3.val) 43 (0, 0)) := (heap_call hC29 h8)
    replace h9 : w29.heap[g9]? = some (.cells (numC R5.val) 43 (0, 0)) := (heap_call hC29 h9)
    have hBw29 : Hid (Below w.heap.size w w29) := Lib.hid (below_call hBw28.out hC29)
    clear hC29
    go_wp2_with (first
      | ((with_reducible refine at_store 10 ?_); refine wpList_store_row rfl 43 _ _ rfl (w29.heap.size) (numC R6.val) rfl rfl 43 (z4) (heap_new_at _ _ _ rfl) (infoNum_of (numC R6.val) (numC_size _)) (z4_size.trans (numC_size _).symm) (numC_one _) ?_)
      | ((with_reducible refine at_dst 44 ?_); refine wpList_load_row rfl 43 _ rfl (w29.heap.size) rfl 43 (numC R6.val) (0, 0) _ (setRow_heap _ _ _ _ _ _ (heap_new_at _ _ _ rfl)) underNum rfl (infoNum_of (numC R6.val) (numC_size _)) ?_)
      | ((with_reducible refine at_dst 45 ?_); refine wpList_load_row rfl 43 _ rfl (g9) rfl 43 (numC R5.val) (0, 0) _ (heap_row _ (by omega) (heap_old _ h9)) underNum rfl (infoNum_of (numC R5.val) (numC_size _)) ?_)
      | ((with_reducible refine at_dst 46 ?_); refine wpList_load_row rfl 43 _ rfl (w1.heap.size) rfl 43 (numC pF) (0, 0) _ (heap_row _ (by omega) (heap_old _ h5)) underNum rfl (infoNum_of (numC pF) (numC_size _)) ?_))
    obtain ⟨R7, qR7⟩ : ∃ uu : Fp, uu = R6 + R5 := ⟨_, rfl⟩
    have HR7 := Lib.hid qR7; clear qR7
    refine (splus_ff R6 R5 R7 HR7 _).mono ?_
    rintro e w30 ⟨rfl, hC30⟩
    have hs30 : w29.heap.size + 1 ≤ w30.heap.size := by have := hC30.size; (try simp only [alloc_size, setRow_size] at this); omega
    replace h2 : w30.heap[w.heap.size]? = some (.cells (ptC (X.val) (Y.val) (Z.val)) 45 (0, 0)) := (heap_call hC30 (heap_row _ (by omega) (heap_old _ h2)))
    replace h3 : w30.heap[w.heap.size + 1]? = some (.cells (ptC (X2.val) (Y2.val) (Z2.val)) 45 (0, 0)) := (heap_call hC30 (heap_row _ (by omega) (heap_old _ h3)))
    replace h4 : w30.heap[w.heap.size + 1 + 1]? = some (.cells (z12) 45 (0, 0)) := (heap_call hC30 (heap_row _ (by omega) (heap_old _ h4)))
    replace h5 : w30.heap[w1.heap.size]? = some (.cells (numC pF) 43 (0, 0)) := (heap_call hC30 (heap_row _ (by omega) (heap_old _ h5)))
    replace h6 : w30.heap[w2.heap.size]? = some (.cells (numC R1.val) 43 (0, 0)) := (heap_call hC30 (heap_row _ (by omega) (heap_old _ h6)))
    replace h7 : w30.heap[w3.heap.size]? = some (.cells (numC R2.val) 43 (0, 0)) := (heap_call hC30 (heap_row _ (by omega) (heap_old _ h7)))
    replace h8 : w30.heap[w4.heap.size]? = some (.cells (numC R3.val) 43 (0, 0)) := (heap_call hC30 (heap_row _ (by omega) (heap_old _ h8)))
    replace h9 : w30.heap[g9]? = some (.cells (numC R5.val) 43 (0, 0)) := (heap_call hC30 (heap_row _ (by omega) (heap_old _ h9)))
    replace h10 : w30.heap[w29.heap.size]? = some (.cells (numC R6.val) 43 (0, 0)) := (heap_call hC30 (setRow_heap _ _ _ _ _ _ (heap_new_at _ _ _ rfl)))
    have hBw30 : Hid (Below w.heap.size w w30) := Lib.hid (below_call (below_setRow (below_alloc hBw29.out _) (by omega) _) hC30)
    clear hC30
    go_wp2_with (first
      | ((with_reducible refine at_store 11 ?_); refine wpList_store_row rfl 43 _ _ rfl (w30.heap.size) (numC R7.val) rfl rfl 43 (z4) (heap_new_at _ _ _ rfl) (infoNum_of (numC R7.val) (numC_size _)) (z4_size.trans (numC_size _).symm) (numC_one _) ?_)
      | ((with_reducible refine at_dst 48 ?_); refine wpList_load_row rfl 43 _ rfl (w29.heap.size) rfl 43 (numC R6.val) (0, 0) _ (heap_row _ (by omega) (heap_old _ h10)) underNum rfl (infoNum_of (numC R6.val) (numC_size _)) ?_)
      | ((with_reducible refine at_dst 49 ?_); refine wpList_load_row rfl 43 _ rfl (g9) rfl 43 (numC R5.val) (0, 0) _ (heap_row _ (by omega) (heap_old _ h9)) underNum rfl (infoNum_of (numC R5.val) (numC_size _)) ?_)
      | ((with_reducible refine at_dst 50 ?_); refine wpList_load_row rfl 43 _ rfl (w1.heap.size) rfl 43 (numC pF) (0, 0) _ (heap_row _ (by omega) (heap_old _ h5)) underNum rfl (infoNum_of (numC pF) (numC_size _)) ?_))
    obtain ⟨R8, qR8⟩ : ∃ uu : Fp, uu = R6 - R5 := ⟨_, rfl⟩
    have HR8 := Lib.hid qR8; clear qR8
    refine (sminus_ff R6 R5 R8 HR8 _).mono ?_
    rintro e w31 ⟨rfl, hC31⟩
    have hs31 : w30.heap.size + 1 ≤ w31.heap.size := by have := hC31.size; (try simp only [alloc_size, setRow_size] at this); omega
    replace h2 : w31.heap[w.heap.size]? = some (.cells (ptC (X.val) (Y.val) (Z.val)) 45 (0, 0)) := (heap_call hC31 (heap_row _ (by omega) (heap_old _ h2)))
    replace h3 : w31.heap[w.heap.size + 1]? = some (.cells (ptC (X2.val) (Y2.val) (Z2.val)) 45 (0, 0)) := (heap_call hC31 (heap_row _ (by omega) (heap_old _ h3)))
    replace h4 : w31.heap[w.heap.size + 1 + 1]? = some (.cells (z12) 45 (0, 0)) := (heap_call hC31 (heap_row _ (by omega) (heap_old _ h4)))
    replace h5 : w31.heap[w1.heap.size]? = some (.cells (numC pF) 43 (0, 0)) := (heap_call hC31 (heap_row _ (by omega) (heap_old _ h5)))
    replace h6 : w31.heap[w2.heap.size]? = some (.cells (numC R1.val) 43 (0, 0)) := (heap_call hC31 (heap_row _ (by omega) (heap_old _ h6)))
    replace h7 : w31.heap[w3.heap.size]? = some (.cells (numC R2.val) 43 (0, 0)) := (heap_call hC31 (heap_row _ (by omega) (heap_old _ h7)))
    replace h8 : w31.heap[w4.heap.size]? = some (.cells (numC R3.val) 43 (0, 0)) := (heap_call hC31 (heap_row _ (by omega) (heap_old _ h8)))
    replace h9 : w31.heap[g9]? = some (.cells (numC R5.val) 43 (0, 0)) := (heap_call hC31 (heap_row _ (by omega) (heap_old _ h9)))
    replace h10 : w31.heap[w29.heap.size]? = some (.cells (numC R6.val) 43 (0, 0)) := (heap_call hC31 (heap_row _ (by omega) (heap_old _ h10)))
    replace h11 : w31.heap[w30.heap.size]? = some (.cells (numC R7.val) 43 (0, 0)) := (heap_call hC31 (setRow_heap _ _ _ _ _ _ (heap_new_at _ _ _ rfl)))
    have hBw31 : Hid (Below w.heap.size w w31) := Lib.hid (below_call (below_setRow (below_alloc hBw30.out _) (by omega) _) hC31)
    clear hC31
    go_wp2_with (first
      | ((with_reducible refine at_store 12 ?_); refine wpList_store_row rfl 43 _ _ rfl (w31.heap.size) (numC R8.val) rfl rfl 43 (z4) (heap_new_at _ _ _ rfl) (infoNum_of (numC R8.val) (numC_size _)) (z4_size.trans (numC_size _).symm) (numC_one _) ?_))
    try simp only [Act.put]
    refine wp_named ?_
    intro w32 ew32
    have hs32 : w31.heap.size + 1 ≤ w32.heap.size := by rw [ew32]; (try simp only [alloc_size, setRow_size]); omega
    replace h2 : w32.heap[w.heap.size]? = some (.cells (ptC (X.val) (Y.val) (Z.val)) 45 (0, 0)) := by rw [ew32]; exact (heap_row _ (by omega) (heap_old _ h2))
    replace h3 : w32.heap[w.heap.size + 1]? = some (.cells (ptC (X2.val) (Y2.val) (Z2.val)) 45 (0, 0)) := by rw [ew32]; exact (heap_row _ (by omega) (heap_old _ h3))
    replace h4 : w32.heap[w.heap.size + 1 + 1]? = some (.cells (z12) 45 (0, 0)) := by rw [ew32]; exact (heap_row _ (by omega) (heap_old _ h4))
    replace h5 : w32.heap[w1.heap.size]? = some (.cells (numC pF) 43 (0, 0)) := by rw [ew32]; exact (heap_row _ (by omega) (heap_old _ h5))
    replace h6 : w32.heap[w2.heap.size]? = some (.cells (numC R1.val) 43 (0, 0)) := by rw [ew32]; exact (heap_row _ (by omega) (heap_old _ h6))
    replace h7 : w32.heap[w3.heap.size]? = some (.cells (numC R2.val) 43 (0, 0)) := by rw [ew32]; exact (heap_row _ (by omega) (heap_old _ h7))
    replace h8 : w32.heap[w4.heap.size]? = some (.cells (numC R3.val) 43 (0, 0)) := by rw [ew32]; exact (heap_row _ (by omega) (heap_old _ h8))
    replace h9 : w32.heap[g9]? = some (.cells (numC R5.val) 43 (0, 0)) := by rw [ew32]; exact (heap_row _ (by omega) (heap_old _ h9))
    replace h10 : w32.heap[w29.heap.size]? = some (.cells (numC R6.val) 43 (0, 0)) := by rw [ew32]; exact (heap_row _ (by omega) (heap_old _ h10))
    replace h11 : w32.heap[w30.heap.size]? = some (.cells (numC R7.val) 43 (0, 0)) := by rw [ew32]; exact (heap_row _ (by omega) (heap_old _ h11))
    replace h12 : w32.heap[w31.heap.size]? = some (.cells (numC R8.val) 43 (0, 0)) := by rw [ew32]; exact (setRow_heap _ _ _ _ _ _ (heap_new_at _ _ _ rfl))
    have hBw32 : Hid (Below w.heap.size w w32) := Lib.hid (by rw [ew32]; exact (below_setRow (below_alloc hBw31.out _) (by omega) _))
    clear ew32
    obtain ⟨R9, qR9⟩ : ∃ uu : Fp, uu = X * Y2 := ⟨_, rfl⟩
    have HR9 := Lib.hid qR9; clear qR9
    obtain ⟨R10, qR10⟩ : ∃ uu : Fp, uu = X2 * Y := ⟨_, rfl⟩
    have HR10 := Lib.hid qR10; clear qR10
    obtain ⟨R11, qR11⟩ : ∃ uu : Fp, uu = R9 + R10 := ⟨_, rfl⟩
    have HR11 := Lib.hid qR11; clear qR11
    go_cut [13] (fun s13 wx => ∃ g13 : Nat, s13 = .pointer (some ⟨g13, 0, none⟩) ∧ Hid (w32.heap.size ≤ g13) ∧ Hid (wx.heap[g13]? = some (.cells (numC R11.val) 43 (0, 0))) ∧ Hid (wx.heap[w.heap.size]? = some (.cells (ptC (X.val) (Y.val) (Z.val)) 45 (0, 0))) ∧ Hid (wx.heap[w.heap.size + 1]? = some (.cells (ptC (X2.val) (Y2.val) (Z2.val)) 45 (0, 0))) ∧ Hid (wx.heap[w.heap.size + 1 + 1]? = some (.cells (z12) 45 (0, 0))) ∧ Hid (wx.heap[w1.heap.size]? = some (.cells (numC pF) 43 (0, 0))) ∧ Hid (wx.heap[w2.heap.size]? = some (.cells (numC R1.val) 43 (0, 0))) ∧ Hid (wx.heap[w3.heap.size]? = some (.cells (numC R2.val) 43 (0, 0))) ∧ Hid (wx.heap[w4.heap.size]? = some (.cells (numC R3.val) 43 (0, 0))) ∧ Hid (wx.heap[g9]? = some (.cells (numC R5.val) 43 (0, 0))) ∧ Hid (wx.heap[w29.heap.size]? = some (.cells (numC R6.val) 43 (0, 0))) ∧ Hid (wx.heap[w30.heap.size]? = some (.cells (numC R7.val) 43 (0, 0))) ∧ Hid (wx.heap[w31.heap.size]? = some (.cells (numC R8.val) 43 (0, 0))) ∧ Hid (Below w.heap.size w wx) ∧ Hid (w32.heap.size ≤ wx.heap.size))
    case first =>
      refine wp_region_noPanic ?_
      refine wp_region_held_drew (S := Keep (w32.heap.size) w32) (by kernel_rfl) (Keep.start _ _) ?_
      intro hS
      obtain ⟨w33, ed⟩ : ∃ u : World, u = w32.drew := ⟨_, rfl⟩
      rw [← ed] at hS ⊢
      have xh2 : w33.heap[w.heap.size]? = some (.cells (ptC (X.val) (Y.val) (Z.val)) 45 (0, 0)) := by rw [ed]; exact h2
      have xh3 : w33.heap[w.heap.size + 1]? = some (.cells (ptC (X2.val) (Y2.val) (Z2.val)) 45 (0, 0)) := by rw [ed]; exact h3
      have xh4 : w33.heap[w.heap.size + 1 + 1]? = some (.cells (z12) 45 (0, 0)) := by rw [ed]; exact h4
      have xh5 : w33.heap[w1.heap.size]? = some (.cells (numC pF) 43 (0, 0)) := by rw [ed]; exact h5
      have xh6 : w33.heap[w2.heap.size]? = some (.cells (numC R1.val) 43 (0, 0)) := by rw [ed]; exact h6
      have xh7 : w33.heap[w3.heap.size]? = some (.cells (numC R2.val) 43 (0, 0)) := by rw [ed]; exact h7
      have xh8 : w33.heap[w4.heap.size]? = some (.cells (numC R3.val) 43 (0, 0)) := by rw [ed]; exact h8
      have xh9 : w33.heap[g9]? = some (.cells (numC R5.val) 43 (0, 0)) := by rw [ed]; exact h9
      have xh10 : w33.heap[w29.heap.size]? = some (.cells (numC R6.val) 43 (0, 0)) := by rw [ed]; exact h10
      have xh11 : w33.heap[w30.heap.size]? = some (.cells (numC R7.val) 43 (0, 0)) := by rw [ed]; exact h11
      have xh12 : w33.heap[w31.heap.size]? = some (.cells (numC R8.val) 43 (0, 0)) := by rw [ed]; exact h12
      clear ed
      have hSz := hS.size
      clear xh2
      clear xh3
      clear xh4
      clear xh5
      clear xh6
      clear xh7
      clear xh8
      clear xh9
      clear xh10
      clear xh11
      clear xh12
      refine takeAtK (i := 0) (v := .pointer (some ⟨w.heap.size, 0, none⟩)) rfl (some 52) rfl (take_run rfl (fun _ _ => by go_simp)) hS ?_
      simp only [Act.put, sia, sc0, scs]
      refine takeAtK (i := 1) (v := .agg (numC X.val)) rfl (some 53) rfl (take_part rfl _ _ rfl (w.heap.size) 0 rfl _ _ _ h2 (Nat.ne_of_lt (heap_lt h2)) (numC (X.val)) (part_x _ _ _) underNum rfl (infoNum_of _ (numC_size _))) hS ?_
      simp only [Act.put, sia, sc0, scs]
      refine takeAtK (i := 2) (v := .pointer (some ⟨w.heap.size + 1, 4, none⟩)) rfl (some 54) rfl (take_run rfl (fun _ _ => by go_simp)) hS ?_
      simp only [Act.put, sia, sc0, scs]
      refine takeAtK (i := 3) (v := .agg (numC Y2.val)) rfl (some 55) rfl (take_part rfl _ _ rfl (w.heap.size + 1) 4 rfl _ _ _ h3 (Nat.ne_of_lt (heap_lt h3)) (numC (Y2.val)) (part_y _ _ _) underNum rfl (infoNum_of _ (numC_size _))) hS ?_
      simp only [Act.put, sia, sc0, scs]
      refine takeAtK (i := 4) (v := .agg (numC pF)) rfl (some 56) rfl (take_row rfl _ _ rfl (w1.heap.size) rfl _ _ _ h5 (Nat.ne_of_lt (heap_lt h5)) underNum rfl (infoNum_of (numC pF) (numC_size _))) hS ?_
      simp only [Act.put, sia, sc0, scs]
      refine takeAtK (i := 6) (v := .pointer (some ⟨w.heap.size + 1, 0, none⟩)) rfl (some 58) rfl (take_run rfl (fun _ _ => by go_simp)) hS ?_
      simp only [Act.put, sia, sc0, scs]
      refine takeAtK (i := 7) (v := .agg (numC X2.val)) rfl (some 59) rfl (take_part rfl _ _ rfl (w.heap.size + 1) 0 rfl _ _ _ h3 (Nat.ne_of_lt (heap_lt h3)) (numC (X2.val)) (part_x _ _ _) underNum rfl (infoNum_of _ (numC_size _))) hS ?_
      simp only [Act.put, sia, sc0, scs]
      refine takeAtK (i := 8) (v := .pointer (some ⟨w.heap.size, 4, none⟩)) rfl (some 60) rfl (take_run rfl (fun _ _ => by go_simp)) hS ?_
      simp only [Act.put, sia, sc0, scs]
      refine takeAtK (i := 9) (v := .agg (numC Y.val)) rfl (some 61) rfl (take_part rfl _ _ rfl (w.heap.size) 4 rfl _ _ _ h2 (Nat.ne_of_lt (heap_lt h2)) (numC (Y.val)) (part_y _ _ _) underNum rfl (infoNum_of _ (numC_size _))) hS ?_
      simp only [Act.put, sia, sc0, scs]
      refine takeAtK (i := 10) (v := .agg (numC pF)) rfl (some 62) rfl (take_row rfl _ _ rfl (w1.heap.size) rfl _ _ _ h5 (Nat.ne_of_lt (heap_lt h5)) underNum rfl (infoNum_of (numC pF) (numC_size _))) hS ?_
      simp only [Act.put, sia, sc0, scs]
      refine takeAtK (i := 12) (v := .agg (numC pF)) rfl (some 64) rfl (take_row rfl _ _ rfl (w1.heap.size) rfl _ _ _ h5 (Nat.ne_of_lt (heap_lt h5)) underNum rfl (infoNum_of (numC pF) (numC_size _))) hS ?_
      simp only [Act.put, sia, sc0, scs]
      refine wpAnyH_ready (rs := [5, 14]) (by kernel_rfl) (by simp) ?_
      refine (AllReadyH.cons rfl ?_ (AllReadyH.cons rfl ?_ AllReadyH.nil))
      · intro K hK
        refine ready_call rfl (some 57) rfl 45 #[.agg (numC X.val), .agg (numC Y2.val), .agg (numC pF)] (by go_simp) ?_
        refine (stimes_ff X Y2 R9 HR9 _).mono ?_
        rintro e w34 ⟨rfl, hC⟩
        refine ⟨_, rfl, ?_⟩
        simp only [Act.put, sia, sc0, scs]
        have hS := hS.call hC
        have hz34 := hC.size
        clear hC
        refine hK.out _ _ hS ?_
        clear hK K
        intro _
        have hSz := hS.size
        refine wpAnyH_ready (rs := [11, 14]) (by kernel_rfl) (by simp) ?_
        refine (AllReadyH.cons rfl ?_ (AllReadyH.cons rfl ?_ AllReadyH.nil))
        · intro K hK
          refine ready_call rfl (some 63) rfl 45 #[.agg (numC X2.val), .agg (numC Y.val), .agg (numC pF)] (by go_simp) ?_
          refine (stimes_ff X2 Y R10 HR10 _).mono ?_
          rintro e w35 ⟨rfl, hC⟩
          refine ⟨_, rfl, ?_⟩
          simp only [Act.put, sia, sc0, scs]
          have hS := hS.call hC
          have hz35 := hC.size
          clear hC
          refine hK.out _ _ hS ?_
          clear hK K
          intro _
          have hSz := hS.size
          refine wpAnyH_ready (rs := [13, 14]) (by kernel_rfl) (by simp) ?_
          refine (AllReadyH.cons rfl ?_ (AllReadyH.cons rfl ?_ AllReadyH.nil))
          · intro K hK
            refine ready_call rfl (some 65) rfl 49 #[.agg (numC R9.val), .agg (numC R10.val), .agg (numC pF)] (by go_simp) ?_
            refine (splus_ff R9 R10 R11 HR11 _).mono ?_
            rintro e w36 ⟨rfl, hC⟩
            refine ⟨_, rfl, ?_⟩
            simp only [Act.put, sia, sc0, scs]
            have hS := hS.call hC
            have hz36 := hC.size
            clear hC
            refine hK.out _ _ hS ?_
            clear hK K
            intro _
            have hSz := hS.size
            refine wpAnyH_ready (rs := [14]) (by kernel_rfl) (by simp) ?_
            refine (AllReadyH.cons rfl ?_ AllReadyH.nil)
            intro K hK
            refine ready_run rfl (some 13) rfl (.pointer (some ⟨w36.heap.size, 0, none⟩)) (w36.alloc (.cells z4 43)) (by go_simp; try rfl) ?_
            simp only [Act.put, sia, sc0, scs]
            obtain ⟨w37, ea⟩ : ∃ u : World, u = w36.alloc (.cells z4 43) := ⟨_, rfl⟩
            rw [← ea]
            have hS := hS.alloc (.cells z4 43)
            rw [← ea] at hS
            have hz37 : w36.heap.size + 1 ≤ w37.heap.size := by rw [ea, alloc_size]; omega
            have hy37 : w32.heap.size ≤ w36.heap.size := hSz
            have xh13 : w37.heap[w36.heap.size]? = some (.cells (z4) 43 (0, 0)) := by rw [ea]; exact heap_new_at _ _ _ rfl
            clear ea
            refine hK.out _ _ hS ?_
            clear hK K
            intro _
            have hSz := hS.size
            refine wpAnyH_ready (rs := [15]) (by kernel_rfl) (by simp) ?_
            refine (AllReadyH.cons rfl ?_ AllReadyH.nil)
            intro K hK
            rw [if_pos (by rfl)]
            refine wp_store_row 43 _ _ rfl (w36.heap.size) (numC R11.val) rfl rfl 43 (z4) xh13 (infoNum_of (numC R11.val) (numC_size _)) (z4_size.trans (numC_size _).symm) (numC_one _) ?_
            refine put_at (none) rfl ?_
            simp only [Act.put, sia, sc0, scs]
            have xh13 : (w37.setRow (w36.heap.size) (numC R11.val)).heap[w36.heap.size]? = some (.cells (numC R11.val) 43 (0, 0)) := (setRow_heap _ _ _ _ _ _ xh13)
            have hS := hS.storeNew (numC R11.val) (show w32.heap.size ≤ w36.heap.size by omega)
            generalize w37.setRow (w36.heap.size) (numC R11.val) = w38 at *
            refine hK.out _ _ hS ?_
            clear hK K
            intro _
            have hSz := hS.size
            refine wpAnyH_done (by kernel_rfl) ?_ _
            refine NoPanic.normal ?_
            have hsz := hS.size
            have h2 : w38.heap[w.heap.size]? = some (.cells (ptC (X.val) (Y.val) (Z.val)) 45 (0, 0)) := hS.old h2 (Nat.ne_of_lt (heap_lt h2))
            have h3 : w38.heap[w.heap.size + 1]? = some (.cells (ptC (X2.val) (Y2.val) (Z2.val)) 45 (0, 0)) := hS.old h3 (Nat.ne_of_lt (heap_lt h3))
            have h4 : w38.heap[w.heap.size + 1 + 1]? = some (.cells (z12) 45 (0, 0)) := hS.old h4 (Nat.ne_of_lt (heap_lt h4))
            have h5 : w38.heap[w1.heap.size]? = some (.cells (numC pF) 43 (0, 0)) := hS.old h5 (Nat.ne_of_lt (heap_lt h5))
            have h6 : w38.heap[w2.heap.size]? = some (.cells (numC R1.val) 43 (0, 0)) := hS.old h6 (Nat.ne_of_lt (heap_lt h6))
            have h7 : w38.heap[w3.heap.size]? = some (.cells (numC R2.val) 43 (0, 0)) := hS.old h7 (Nat.ne_of_lt (heap_lt h7))
            have h8 : w38.heap[w4.heap.size]? = some (.cells (numC R3.val) 43 (0, 0)) := hS.old h8 (Nat.ne_of_lt (heap_lt h8))
            have h9 : w38.heap[g9]? = some (.cells (numC R5.val) 43 (0, 0)) := hS.old h9 (Nat.ne_of_lt (heap_lt h9))
            have h10 : w38.heap[w29.heap.size]? = some (.cells (numC R6.val) 43 (0, 0)) := hS.old h10 (Nat.ne_of_lt (heap_lt h10))
            have h11 : w38.heap[w30.heap.size]? = some (.cells (numC R7.val) 43 (0, 0)) := hS.old h11 (Nat.ne_of_lt (heap_lt h11))
            have h12 : w38.heap[w31.heap.size]? = some (.cells (numC R8.val) 43 (0, 0)) := hS.old h12 (Nat.ne_of_lt (heap_lt h12))
            have h13 := xh13
            have hBw38 : Hid (Below w.heap.size w w38) := Lib.hid (hBw32.out.trans (hS.below (by omega) hBw32.out.size))
            clear hS
            go_wp2_with fail
            go_meet
            exact ⟨w36.heap.size, rfl, Lib.hid (show w32.heap.size ≤ w36.heap.size by omega), Lib.hid h13, Lib.hid h2, Lib.hid h3, Lib.hid h4, Lib.hid h5, Lib.hid h6, Lib.hid h7, Lib.hid h8, Lib.hid h9, Lib.hid h10, Lib.hid h11, Lib.hid h12, Lib.hid hBw38.out, Lib.hid (show w32.heap.size ≤ w38.heap.size by omega)⟩
          · intro K hK
            refine ready_run rfl (some 13) rfl (.pointer (some ⟨w35.heap.size, 0, none⟩)) (w35.alloc (.cells z4 43)) (by go_simp; try rfl) ?_
            simp only [Act.put, sia, sc0, scs]
            obtain ⟨w40, ea⟩ : ∃ u : World, u = w35.alloc (.cells z4 43) := ⟨_, rfl⟩
            rw [← ea]
            have hS := hS.alloc (.cells z4 43)
            rw [← ea] at hS
            have hz40 : w35.heap.size + 1 ≤ w40.heap.size := by rw [ea, alloc_size]; omega
            have hy40 : w32.heap.size ≤ w35.heap.size := hSz
            have xh13 : w40.heap[w35.heap.size]? = some (.cells (z4) 43 (0, 0)) := by rw [ea]; exact heap_new_at _ _ _ rfl
            clear ea
            refine hK.out _ _ hS ?_
            clear hK K
            intro _
            have hSz := hS.size
            refine wpAnyH_ready (rs := [13]) (by kernel_rfl) (by simp) ?_
            refine (AllReadyH.cons rfl ?_ AllReadyH.nil)
            intro K hK
            refine ready_call rfl (some 65) rfl 49 #[.agg (numC R9.val), .agg (numC R10.val), .agg (numC pF)] (by go_simp) ?_
            refine (splus_ff R9 R10 R11 HR11 _).mono ?_
            rintro e w41 ⟨rfl, hC⟩
            refine ⟨_, rfl, ?_⟩
            simp only [Act.put, sia, sc0, scs]
            have xh13 : w41.heap[w35.heap.size]? = some (.cells (z4) 43 (0, 0)) := (heap_call hC xh13)
            have hS := hS.call hC
            have hz41 := hC.size
            clear hC
            refine hK.out _ _ hS ?_
            clear hK K
            intro _
            have hSz := hS.size
            refine wpAnyH_ready (rs := [15]) (by kernel_rfl) (by simp) ?_
            refine (AllReadyH.cons rfl ?_ AllReadyH.nil)
            intro K hK
            rw [if_pos (by rfl)]
            refine wp_store_row 43 _ _ rfl (w35.heap.size) (numC R11.val) rfl rfl 43 (z4) xh13 (infoNum_of (numC R11.val) (numC_size _)) (z4_size.trans (numC_size _).symm) (numC_one _) ?_
            refine put_at (none) rfl ?_
            simp only [Act.put, sia, sc0, scs]
            have xh13 : (w41.setRow (w35.heap.size) (numC R11.val)).heap[w35.heap.size]? = some (.cells (numC R11.val) 43 (0, 0)) := (setRow_heap _ _ _ _ _ _ xh13)
            have hS := hS.storeNew (numC R11.val) (show w32.heap.size ≤ w35.heap.size by omega)
            generalize w41.setRow (w35.heap.size) (numC R11.val) = w42 at *
            refine hK.out _ _ hS ?_
            clear hK K
            intro _
            have hSz := hS.size
            refine wpAnyH_done (by kernel_rfl) ?_ _
            refine NoPanic.normal ?_
            have hsz := hS.size
            have h2 : w42.heap[w.heap.size]? = some (.cells (ptC (X.val) (Y.val) (Z.val)) 45 (0, 0)) := hS.old h2 (Nat.ne_of_lt (heap_lt h2))
            have h3 : w42.heap[w.heap.size + 1]? = some (.cells (ptC (X2.val) (Y2.val) (Z2.val)) 45 (0, 0)) := hS.old h3 (Nat.ne_of_lt (heap_lt h3))
            have h4 : w42.heap[w.heap.size + 1 + 1]? = some (.cells (z12) 45 (0, 0)) := hS.old h4 (Nat.ne_of_lt (heap_lt h4))
            have h5 : w42.heap[w1.heap.size]? = some (.cells (numC pF) 43 (0, 0)) := hS.old h5 (Nat.ne_of_lt (heap_lt h5))
            have h6 : w42.heap[w2.heap.size]? = some (.cells (numC R1.val) 43 (0, 0)) := hS.old h6 (Nat.ne_of_lt (heap_lt h6))
            have h7 : w42.heap[w3.heap.size]? = some (.cells (numC R2.val) 43 (0, 0)) := hS.old h7 (Nat.ne_of_lt (heap_lt h7))
            have h8 : w42.heap[w4.heap.size]? = some (.cells (numC R3.val) 43 (0, 0)) := hS.old h8 (Nat.ne_of_lt (heap_lt h8))
            have h9 : w42.heap[g9]? = some (.cells (numC R5.val) 43 (0, 0)) := hS.old h9 (Nat.ne_of_lt (heap_lt h9))
            have h10 : w42.heap[w29.heap.size]? = some (.cells (numC R6.val) 43 (0, 0)) := hS.old h10 (Nat.ne_of_lt (heap_lt h10))
            have h11 : w42.heap[w30.heap.size]? = some (.cells (numC R7.val) 43 (0, 0)) := hS.old h11 (Nat.ne_of_lt (heap_lt h11))
            have h12 : w42.heap[w31.heap.size]? = some (.cells (numC R8.val) 43 (0, 0)) := hS.old h12 (Nat.ne_of_lt (heap_lt h12))
            have h13 := xh13
            have hBw42 : Hid (Below w.heap.size w w42) := Lib.hid (hBw32.out.trans (hS.below (by omega) hBw32.out.size))
            clear hS
            go_wp2_with fail
            go_meet
            exact ⟨w35.heap.size, rfl, Lib.hid (show w32.heap.size ≤ w35.heap.size by omega), Lib.hid h13, Lib.hid h2, Lib.hid h3, Lib.hid h4, Lib.hid h5, Lib.hid h6, Lib.hid h7, Lib.hid h8, Lib.hid h9, Lib.hid h10, Lib.hid h11, Lib.hid h12, Lib.hid hBw42.out, Lib.hid (show w32.heap.size ≤ w42.heap.size by omega)⟩
        · intro K hK
          refine ready_run rfl (some 13) rfl (.pointer (some ⟨w34.heap.size, 0, none⟩)) (w34.alloc (.cells z4 43)) (by go_simp; try rfl) ?_
          simp only [Act.put, sia, sc0, scs]
          obtain ⟨w44, ea⟩ : ∃ u : World, u = w34.alloc (.cells z4 43) := ⟨_, rfl⟩
          rw [← ea]
          have hS := hS.alloc (.cells z4 43)
          rw [← ea] at hS
          have hz44 : w34.heap.size + 1 ≤ w44.heap.size := by rw [ea, alloc_size]; omega
          have hy44 : w32.heap.size ≤ w34.heap.size := hSz
          have xh13 : w44.heap[w34.heap.size]? = some (.cells (z4) 43 (0, 0)) := by rw [ea]; exact heap_new_at _ _ _ rfl
          clear ea
          refine hK.out _ _ hS ?_
          clear hK K
          intro _
          have hSz := hS.size
          refine wpAnyH_ready (rs := [11]) (by kernel_rfl) (by simp) ?_
          refine (AllReadyH.cons rfl ?_ AllReadyH.nil)
          intro K hK
          refine ready_call rfl (some 63) rfl 45 #[.agg (numC X2.val), .agg (numC Y.val), .agg (numC pF)] (by go_simp) ?_
          refine (stimes_ff X2 Y R10 HR10 _).mono ?_
          rintro e w45 ⟨rfl, hC⟩
          refine ⟨_, rfl, ?_⟩
          simp only [Act.put, sia, sc0, scs]
          have xh13 : w45.heap[w34.heap.size]? = some (.cells (z4) 43 (0, 0)) := (heap_call hC xh13)
          have hS := hS.call hC
          have hz45 := hC.size
          clear hC
          refine hK.out _ _ hS ?_
          clear hK K
          intro _
          have hSz := hS.size
          refine wpAnyH_ready (rs := [13]) (by kernel_rfl) (by simp) ?_
          refine (AllReadyH.cons rfl ?_ AllReadyH.nil)
          intro K hK
          refine ready_call rfl (some 65) rfl 49 #[.agg (numC R9.val), .agg (numC R10.val), .agg (numC pF)] (by go_simp) ?_
          refine (splus_ff R9 R10 R11 HR11 _).mono ?_
          rintro e w46 ⟨rfl, hC⟩
          refine ⟨_, rfl, ?_⟩
          simp only [Act.put, sia, sc0, scs]
          have xh13 : w46.heap[w34.heap.size]? = some (.cells (z4) 43 (0, 0)) := (heap_call hC xh13)
          have hS := hS.call hC
          have hz46 := hC.size
          clear hC
          refine hK.out _ _ hS ?_
          clear hK K
          intro _
          have hSz := hS.size
          refine wpAnyH_ready (rs := [15]) (by kernel_rfl) (by simp) ?_
          refine (AllReadyH.cons rfl ?_ AllReadyH.nil)
          intro K hK
          rw [if_pos (by rfl)]
          refine wp_store_row 43 _ _ rfl (w34.heap.size) (numC R11.val) rfl rfl 43 (z4) xh13 (infoNum_of (numC R11.val) (numC_size _)) (z4_size.trans (numC_size _).symm) (numC_one _) ?_
          refine put_at (none) rfl ?_
          simp only [Act.put, sia, sc0, scs]
          have xh13 : (w46.setRow (w34.heap.size) (numC R11.val)).heap[w34.heap.size]? = some (.cells (numC R11.val) 43 (0, 0)) := (setRow_heap _ _ _ _ _ _ xh13)
          have hS := hS.storeNew (numC R11.val) (show w32.heap.size ≤ w34.heap.size by omega)
          generalize w46.setRow (w34.heap.size) (numC R11.val) = w47 at *
          refine hK.out _ _ hS ?_
          clear hK K
          intro _
          have hSz := hS.size
          refine wpAnyH_done (by kernel_rfl) ?_ _
          refine NoPanic.normal ?_
          have hsz := hS.size
          have h2 : w47.heap[w.heap.size]? = some (.cells (ptC (X.val) (Y.val) (Z.val)) 45 (0, 0)) := hS.old h2 (Nat.ne_of_lt (heap_lt h2))
          have h3 : w47.heap[w.heap.size + 1]? = some (.cells (ptC (X2.val) (Y2.val) (Z2.val)) 45 (0, 0)) := hS.old h3 (Nat.ne_of_lt (heap_lt h3))
          have h4 : w47.heap[w.heap.size + 1 + 1]? = some (.cells (z12) 45 (0, 0)) := hS.old h4 (Nat.ne_of_lt (heap_lt h4))
          have h5 : w47.heap[w1.heap.size]? = some (.cells (numC pF) 43 (0, 0)) := hS.old h5 (Nat.ne_of_lt (heap_lt h5))
          have h6 : w47.heap[w2.heap.size]? = some (.cells (numC R1.val) 43 (0, 0)) := hS.old h6 (Nat.ne_of_lt (heap_lt h6))
          have h7 : w47.heap[w3.heap.size]? = some (.cells (numC R2.val) 43 (0, 0)) := hS.old h7 (Nat.ne_of_lt (heap_lt h7))
          have h8 : w47.heap[w4.heap.size]? = some (.cells (numC R3.val) 43 (0, 0)) := hS.old h8 (Nat.ne_of_lt (heap_lt h8))
          have h9 : w47.heap[g9]? = some (.cells (numC R5.val) 43 (0, 0)) := hS.old h9 (Nat.ne_of_lt (heap_lt h9))
          have h10 : w47.heap[w29.heap.size]? = some (.cells (numC R6.val) 43 (0, 0)) := hS.old h10 (Nat.ne_of_lt (heap_lt h10))
          have h11 : w47.heap[w30.heap.size]? = some (.cells (numC R7.val) 43 (0, 0)) := hS.old h11 (Nat.ne_of_lt (heap_lt h11))
          have h12 : w47.heap[w31.heap.size]? = some (.cells (numC R8.val) 43 (0, 0)) := hS.old h12 (Nat.ne_of_lt (heap_lt h12))
          have h13 := xh13
          have hBw47 : Hid (Below w.heap.size w w47) := Lib.hid (hBw32.out.trans (hS.below (by omega) hBw32.out.size))
          clear hS
          go_wp2_with fail
          go_meet
          exact ⟨w34.heap.size, rfl, Lib.hid (show w32.heap.size ≤ w34.heap.size by omega), Lib.hid h13, Lib.hid h2, Lib.hid h3, Lib.hid h4, Lib.hid h5, Lib.hid h6, Lib.hid h7, Lib.hid h8, Lib.hid h9, Lib.hid h10, Lib.hid h11, Lib.hid h12, Lib.hid hBw47.out, Lib.hid (show w32.heap.size ≤ w47.heap.size by omega)⟩
      · intro K hK
        refine ready_run rfl (some 13) rfl (.pointer (some ⟨w33.heap.size, 0, none⟩)) (w33.alloc (.cells z4 43)) (by go_simp; try rfl) ?_
        simp only [Act.put, sia, sc0, scs]
        obtain ⟨w49, ea⟩ : ∃ u : World, u = w33.alloc (.cells z4 43) := ⟨_, rfl⟩
        rw [← ea]
        have hS := hS.alloc (.cells z4 43)
        rw [← ea] at hS
        have hz49 : w33.heap.size + 1 ≤ w49.heap.size := by rw [ea, alloc_size]; omega
        have hy49 : w32.heap.size ≤ w33.heap.size := hSz
        have xh13 : w49.heap[w33.heap.size]? = some (.cells (z4) 43 (0, 0)) := by rw [ea]; exact heap_new_at _ _ _ rfl
        clear ea
        refine hK.out _ _ hS ?_
        clear hK K
        intro _
        have hSz := hS.size
        refine wpAnyH_ready (rs := [5]) (by kernel_rfl) (by simp) ?_
        refine (AllReadyH.cons rfl ?_ AllReadyH.nil)
        intro K hK
        refine ready_call rfl (some 57) rfl 45 #[.agg (numC X.val), .agg (numC Y2.val), .agg (numC pF)] (by go_simp) ?_
        refine (stimes_ff X Y2 R9 HR9 _).mono ?_
        rintro e w50 ⟨rfl, hC⟩
        refine ⟨_, rfl, ?_⟩
        simp only [Act.put, sia, sc0, scs]
        have xh13 : w50.heap[w33.heap.size]? = some (.cells (z4) 43 (0, 0)) := (heap_call hC xh13)
        have hS := hS.call hC
        have hz50 := hC.size
        clear hC
        refine hK.out _ _ hS ?_
        clear hK K
        intro _
        have hSz := hS.size
        refine wpAnyH_ready (rs := [11]) (by kernel_rfl) (by simp) ?_
        refine (AllReadyH.cons rfl ?_ AllReadyH.nil)
        intro K hK
        refine ready_call rfl (some 63) rfl 45 #[.agg (numC X2.val), .agg (numC Y.val), .agg (numC pF)] (by go_simp) ?_
        refine (stimes_ff X2 Y R10 HR10 _).mono ?_
        rintro e w51 ⟨rfl, hC⟩
        refine ⟨_, rfl, ?_⟩
        simp only [Act.put, sia, sc0, scs]
        have xh13 : w51.heap[w33.heap.size]? = some (.cells (z4) 43 (0, 0)) := (heap_call hC xh13)
        have hS := hS.call hC
        have hz51 := hC.size
        clear hC
        refine hK.out _ _ hS ?_
        clear hK K
        intro _
        have hSz := hS.size
        refine wpAnyH_ready (rs := [13]) (by kernel_rfl) (by simp) ?_
        refine (AllReadyH.cons rfl ?_ AllReadyH.nil)
        intro K hK
        refine ready_call rfl (some 65) rfl 49 #[.agg (numC R9.val), .agg (numC R10.val), .agg (numC pF)] (by go_simp) ?_
        refine (splus_ff R9 R10 R11 HR11 _).mono ?_
        rintro e w52 ⟨rfl, hC⟩
        refine ⟨_, rfl, ?_⟩
        simp only [Act.put, sia, sc0, scs]
        have xh13 : w52.heap[w33.heap.size]? = some (.cells (z4) 43 (0, 0)) := (heap_call hC xh13)
        have hS := hS.call hC
        have hz52 := hC.size
        clear hC
        refine hK.out _ _ hS ?_
        clear hK K
        intro _
        have hSz := hS.size
        refine wpAnyH_ready (rs := [15]) (by kernel_rfl) (by simp) ?_
        refine (AllReadyH.cons rfl ?_ AllReadyH.nil)
        intro K hK
        rw [if_pos (by rfl)]
        refine wp_store_row 43 _ _ rfl (w33.heap.size) (numC R11.val) rfl rfl 43 (z4) xh13 (infoNum_of (numC R11.val) (numC_size _)) (z4_size.trans (numC_size _).symm) (numC_one _) ?_
        refine put_at (none) rfl ?_
        simp only [Act.put, sia, sc0, scs]
        have xh13 : (w52.setRow (w33.heap.size) (numC R11.val)).heap[w33.heap.size]? = some (.cells (numC R11.val) 43 (0, 0)) := (setRow_heap _ _ _ _ _ _ xh13)
        have hS := hS.storeNew (numC R11.val) (show w32.heap.size ≤ w33.heap.size by omega)
        generalize w52.setRow (w33.heap.size) (numC R11.val) = w53 at *
        refine hK.out _ _ hS ?_
        clear hK K
        intro _
        have hSz := hS.size
        refine wpAnyH_done (by kernel_rfl) ?_ _
        refine NoPanic.normal ?_
        have hsz := hS.size
        have h2 : w53.heap[w.heap.size]? = some (.cells (ptC (X.val) (Y.val) (Z.val)) 45 (0, 0)) := hS.old h2 (Nat.ne_of_lt (heap_lt h2))
        have h3 : w53.heap[w.heap.size + 1]? = some (.cells (ptC (X2.val) (Y2.val) (Z2.val)) 45 (0, 0)) := hS.old h3 (Nat.ne_of_lt (heap_lt h3))
        have h4 : w53.heap[w.heap.size + 1 + 1]? = some (.cells (z12) 45 (0, 0)) := hS.old h4 (Nat.ne_of_lt (heap_lt h4))
        have h5 : w53.heap[w1.heap.size]? = some (.cells (numC pF) 43 (0, 0)) := hS.old h5 (Nat.ne_of_lt (heap_lt h5))
        have h6 : w53.heap[w2.heap.size]? = some (.cells (numC R1.val) 43 (0, 0)) := hS.old h6 (Nat.ne_of_lt (heap_lt h6))
        have h7 : w53.heap[w3.heap.size]? = some (.cells (numC R2.val) 43 (0, 0)) := hS.old h7 (Nat.ne_of_lt (heap_lt h7))
        have h8 : w53.heap[w4.heap.size]? = some (.cells (numC R3.val) 43 (0, 0)) := hS.old h8 (Nat.ne_of_lt (heap_lt h8))
        have h9 : w53.heap[g9]? = some (.cells (numC R5.val) 43 (0, 0)) := hS.old h9 (Nat.ne_of_lt (heap_lt h9))
        have h10 : w53.heap[w29.heap.size]? = some (.cells (numC R6.val) 43 (0, 0)) := hS.old h10 (Nat.ne_of_lt (heap_lt h10))
        have h11 : w53.heap[w30.heap.size]? = some (.cells (numC R7.val) 43 (0, 0)) := hS.old h11 (Nat.ne_of_lt (heap_lt h11))
        have h12 : w53.heap[w31.heap.size]? = some (.cells (numC R8.val) 43 (0, 0)) := hS.old h12 (Nat.ne_of_lt (heap_lt h12))
        have h13 := xh13
        have hBw53 : Hid (Below w.heap.size w w53) := Lib.hid (hBw32.out.trans (hS.below (by omega) hBw32.out.size))
        clear hS
        go_wp2_with fail
        go_meet
        exact ⟨w33.heap.size, rfl, Lib.hid (show w32.heap.size ≤ w33.heap.size by omega), Lib.hid h13, Lib.hid h2, Lib.hid h3, Lib.hid h4, Lib.hid h5, Lib.hid h6, Lib.hid h7, Lib.hid h8, Lib.hid h9, Lib.hid h10, Lib.hid h11, Lib.hid h12, Lib.hid hBw53.out, Lib.hid (show w32.heap.size ≤ w53.heap.size by omega)⟩
    case rest =>
      obtain ⟨g13, rfl, Hg13, Hh13, Hh2, Hh3, Hh4, Hh5, Hh6, Hh7, Hh8, Hh9, Hh10, Hh11, Hh12, hBw55, Hsz55⟩ := hcut
      obtain ⟨w55, rfl⟩ : ∃ u : World, u = wc := ⟨_, rfl⟩
      have hgl13 := Hg13.out
      have h13 := Hh13.out
      have hgu13 := heap_lt h13
      have h2 := Hh2.out
      have h3 := Hh3.out
      have h4 := Hh4.out
      have h5 := Hh5.out
      have h6 := Hh6.out
      have h7 := Hh7.out
      have h8 := Hh8.out
      have h9 := Hh9.out
      have h10 := Hh10.out
      have h11 := Hh11.out
      have h12 := Hh12.out
      have hsz55 := Hsz55.out
      go_wp2_with fail
      try simp only [Act.put]
      refine wp_named ?_
      intro w56 ew56
      have hs56 : w55.heap.size ≤ w56.heap.size := by rw [ew56]; (try simp only [alloc_size, setRow_size]); omega
      replace h2 : w56.heap[w.heap.size]? = some (.cells (ptC (X.val) (Y.val) (Z.val)) 45 (0, 0)) := by rw [ew56]; exact h2
      replace h3 : w56.heap[w.heap.size + 1]? = some (.cells (ptC (X2.val) (Y2.val) (Z2.val)) 45 (0, 0)) := by rw [ew56]; exact h3
      replace h4 : w56.heap[w.heap.size + 1 + 1]? = some (.cells (z12) 45 (0, 0)) := by rw [ew56]; exact h4
      replace h5 : w56.heap[w1.heap.size]? = some (.cells (numC pF) 43 (0, 0)) := by rw [ew56]; exact h5
      replace h6 : w56.heap[w2.heap.size]? = some (.cells (numC R1.val) 43 (0, 0)) := by rw [ew56]; exact h6
      replace h7 : w56.heap[w3.heap.size]? = some (.cells (numC R2.val) 43 (0, 0)) := by rw [ew56]; exact h7
      replace h8 : w56.heap[w4.heap.size]? = some (.cells (numC R3.val) 43 (0, 0)) := by rw [ew56]; exact h8
      replace h9 : w56.heap[g9]? = some (.cells (numC R5.val) 43 (0, 0)) := by rw [ew56]; exact h9
      replace h10 : w56.heap[w29.heap.size]? = some (.cells (numC R6.val) 43 (0, 0)) := by rw [ew56]; exact h10
      replace h11 : w56.heap[w30.heap.size]? = some (.cells (numC R7.val) 43 (0, 0)) := by rw [ew56]; exact h11
      replace h12 : w56.heap[w31.heap.size]? = some (.cells (numC R8.val) 43 (0, 0)) := by rw [ew56]; exact h12
      replace h13 : w56.heap[g13]? = some (.cells (numC R11.val) 43 (0, 0)) := by rw [ew56]; exact h13
      have hBw56 : Hid (Below w.heap.size w w56) := Lib.hid (by rw [ew56]; exact hBw55.out)
      clear ew56
      obtain ⟨R12, qR12⟩ : ∃ uu : Fp, uu = R11 * R8 := ⟨_, rfl⟩
      have HR12 := Lib.hid qR12; clear qR12
      obtain ⟨R13, qR13⟩ : ∃ uu : Fp, uu = R1 * R12 := ⟨_, rfl⟩
      have HR13 := Lib.hid qR13; clear qR13
      obtain ⟨R14, qR14⟩ : ∃ uu : Fp, uu = R2 + R3 := ⟨_, rfl⟩
      have HR14 := Lib.hid qR14; clear qR14
      obtain ⟨R15, qR15⟩ : ∃ uu : Fp, uu = R14 * R7 := ⟨_, rfl⟩
      have HR15 := Lib.hid qR15; clear qR15
      obtain ⟨R16, qR16⟩ : ∃ uu : Fp, uu = R1 * R15 := ⟨_, rfl⟩
      have HR16 := Lib.hid qR16; clear qR16
      obtain ⟨R17, qR17⟩ : ∃ uu : Fp, uu = R7 * R8 := ⟨_, rfl⟩
      have HR17 := Lib.hid qR17; clear qR17
      refine wp_region_noPanic ?_
      refine wp_region_held_drew (S := Keep (w.heap.size + 1 + 1) w56) (by kernel_rfl) (Keep.start _ _) ?_
      intro hS
      obtain ⟨w57, ed⟩ : ∃ u : World, u = w56.drew := ⟨_, rfl⟩
      rw [← ed] at hS ⊢
      have xh2 : w57.heap[w.heap.size]? = some (.cells (ptC (X.val) (Y.val) (Z.val)) 45 (0, 0)) := by rw [ed]; exact h2
      have xh3 : w57.heap[w.heap.size + 1]? = some (.cells (ptC (X2.val) (Y2.val) (Z2.val)) 45 (0, 0)) := by rw [ed]; exact h3
      have xh4 : w57.heap[w.heap.size + 1 + 1]? = some (.cells (z12) 45 (0, 0)) := by rw [ed]; exact h4
      have xh5 : w57.heap[w1.heap.size]? = some (.cells (numC pF) 43 (0, 0)) := by rw [ed]; exact h5
      have xh6 : w57.heap[w2.heap.size]? = some (.cells (numC R1.val) 43 (0, 0)) := by rw [ed]; exact h6
      have xh7 : w57.heap[w3.heap.size]? = some (.cells (numC R2.val) 43 (0, 0)) := by rw [ed]; exact h7
      have xh8 : w57.heap[w4.heap.size]? = some (.cells (numC R3.val) 43 (0, 0)) := by rw [ed]; exact h8
      have xh9 : w57.heap[g9]? = some (.cells (numC R5.val) 43 (0, 0)) := by rw [ed]; exact h9
      have xh10 : w57.heap[w29.heap.size]? = some (.cells (numC R6.val) 43 (0, 0)) := by rw [ed]; exact h10
      have xh11 : w57.heap[w30.heap.size]? = some (.cells (numC R7.val) 43 (0, 0)) := by rw [ed]; exact h11
      have xh12 : w57.heap[w31.heap.size]? = some (.cells (numC R8.val) 43 (0, 0)) := by rw [ed]; exact h12
      have xh13 : w57.heap[g13]? = some (.cells (numC R11.val) 43 (0, 0)) := by rw [ed]; exact h13
      clear ed
      have hSz := hS.size
      clear xh2
      clear xh3
      clear xh5
      clear xh6
      clear xh7
      clear xh8
      clear xh9
      clear xh10
      clear xh11
      clear xh12
      clear xh13
      refine takeAtK (i := 0) (v := .agg (numC R1.val)) rfl (some 66) rfl (take_row rfl _ _ rfl (w2.heap.size) rfl _ _ _ h6 (by omega) underNum rfl (infoNum_of (numC R1.val) (numC_size _))) hS ?_
      simp only [Act.put, sia, sc0, scs]
      refine takeAtK (i := 1) (v := .agg (numC R11.val)) rfl (some 67) rfl (take_row rfl _ _ rfl (g13) rfl _ _ _ h13 (by omega) underNum rfl (infoNum_of (numC R11.val) (numC_size _))) hS ?_
      simp only [Act.put, sia, sc0, scs]
      refine takeAtK (i := 2) (v := .agg (numC R8.val)) rfl (some 68) rfl (take_row rfl _ _ rfl (w31.heap.size) rfl _ _ _ h12 (by omega) underNum rfl (infoNum_of (numC R8.val) (numC_size _))) hS ?_
      simp only [Act.put, sia, sc0, scs]
      refine takeAtK (i := 3) (v := .agg (numC pF)) rfl (some 69) rfl (take_row rfl _ _ rfl (w1.heap.size) rfl _ _ _ h5 (by omega) underNum rfl (infoNum_of (numC pF) (numC_size _))) hS ?_
      simp only [Act.put, sia, sc0, scs]
      refine takeAtK (i := 5) (v := .agg (numC pF)) rfl (some 71) rfl (take_row rfl _ _ rfl (w1.heap.size) rfl _ _ _ h5 (by omega) underNum rfl (infoNum_of (numC pF) (numC_size _))) hS ?_
      simp only [Act.put, sia, sc0, scs]
      refine takeAtK (i := 7) (v := .agg (numC R1.val)) rfl (some 73) rfl (take_row rfl _ _ rfl (w2.heap.size) rfl _ _ _ h6 (by omega) underNum rfl (infoNum_of (numC R1.val) (numC_size _))) hS ?_
      simp only [Act.put, sia, sc0, scs]
      refine takeAtK (i := 8) (v := .agg (numC R2.val)) rfl (some 74) rfl (take_row rfl _ _ rfl (w3.heap.size) rfl _ _ _ h7 (by omega) underNum rfl (infoNum_of (numC R2.val) (numC_size _))) hS ?_
      simp only [Act.put, sia, sc0, scs]
      refine takeAtK (i := 9) (v := .agg (numC R3.val)) rfl (some 75) rfl (take_row rfl _ _ rfl (w4.heap.size) rfl _ _ _ h8 (by omega) underNum rfl (infoNum_of (numC R3.val) (numC_size _))) hS ?_
      simp only [Act.put, sia, sc0, scs]
      refine takeAtK (i := 10) (v := .agg (numC pF)) rfl (some 76) rfl (take_row rfl _ _ rfl (w1.heap.size) rfl _ _ _ h5 (by omega) underNum rfl (infoNum_of (numC pF) (numC_size _))) hS ?_
      simp only [Act.put, sia, sc0, scs]
      refine takeAtK (i := 12) (v := .agg (numC R7.val)) rfl (some 78) rfl (take_row rfl _ _ rfl (w30.heap.size) rfl _ _ _ h11 (by omega) underNum rfl (infoNum_of (numC R7.val) (numC_size _))) hS ?_
      simp only [Act.put, sia, sc0, scs]
      refine takeAtK (i := 13) (v := .agg (numC pF)) rfl (some 79) rfl (take_row rfl _ _ rfl (w1.heap.size) rfl _ _ _ h5 (by omega) underNum rfl (infoNum_of (numC pF) (numC_size _))) hS ?_
      simp only [Act.put, sia, sc0, scs]
      refine takeAtK (i := 15) (v := .agg (numC pF)) rfl (some 81) rfl (take_row rfl _ _ rfl (w1.heap.size) rfl _ _ _ h5 (by omega) underNum rfl (infoNum_of (numC pF) (numC_size _))) hS ?_
      simp only [Act.put, sia, sc0, scs]
      refine takeAtK (i := 17) (v := .agg (numC R7.val)) rfl (some 83) rfl (take_row rfl _ _ rfl (w30.heap.size) rfl _ _ _ h11 (by omega) underNum rfl (infoNum_of (numC R7.val) (numC_size _))) hS ?_
      simp only [Act.put, sia, sc0, scs]
      refine takeAtK (i := 18) (v := .agg (numC R8.val)) rfl (some 84) rfl (take_row rfl _ _ rfl (w31.heap.size) rfl _ _ _ h12 (by omega) underNum rfl (infoNum_of (numC R8.val) (numC_size _))) hS ?_
      simp only [Act.put, sia, sc0, scs]
      refine takeAtK (i := 19) (v := .agg (numC pF)) rfl (some 85) rfl (take_row rfl _ _ rfl (w1.heap.size) rfl _ _ _ h5 (by omega) underNum rfl (infoNum_of (numC pF) (numC_size _))) hS ?_
      simp only [Act.put, sia, sc0, scs]
      refine wpAnyH_ready (rs := [4]) (by kernel_rfl) (by simp) ?_
      refine (AllReadyH.cons rfl ?_ AllReadyH.nil)
      intro K hK
      refine ready_call rfl (some 70) rfl 45 #[.agg (numC R11.val), .agg (numC R8.val), .agg (numC pF)] (by go_simp) ?_
      refine (stimes_ff R11 R8 R12 HR12 _).mono ?_
      rintro e w58 ⟨rfl, hC⟩
      refine ⟨_, rfl, ?_⟩
      simp only [Act.put, sia, sc0, scs]
      have xh4 : w58.heap[w.heap.size + 1 + 1]? = some (.cells (z12) 45 (0, 0)) := (heap_call hC xh4)
      have hS := hS.call hC
      have hz58 := hC.size
      clear hC
      refine hK.out _ _ hS ?_
      clear hK K
      intro _
      have hSz := hS.size
      refine wpAnyH_ready (rs := [6]) (by kernel_rfl) (by simp) ?_
      refine (AllReadyH.cons rfl ?_ AllReadyH.nil)
      intro K hK
      refine ready_call rfl (some 72) rfl 45 #[.agg (numC R1.val), .agg (numC R12.val), .agg (numC pF)] (by go_simp) ?_
      refine (stimes_ff R1 R12 R13 HR13 _).mono ?_
      rintro e w59 ⟨rfl, hC⟩
      refine ⟨_, rfl, ?_⟩
      simp only [Act.put, sia, sc0, scs]
      have xh4 : w59.heap[w.heap.size + 1 + 1]? = some (.cells (z12) 45 (0, 0)) := (heap_call hC xh4)
      have hS := hS.call hC
      have hz59 := hC.size
      clear hC
      refine hK.out _ _ hS ?_
      clear hK K
      intro _
      have hSz := hS.size
      refine wpAnyH_ready (rs := [11]) (by kernel_rfl) (by simp) ?_
      refine (AllReadyH.cons rfl ?_ AllReadyH.nil)
      intro K hK
      refine ready_call rfl (some 77) rfl 49 #[.agg (numC R2.val), .agg (numC R3.val), .agg (numC pF)] (by go_simp) ?_
      refine (splus_ff R2 R3 R14 HR14 _).mono ?_
      rintro e w60 ⟨rfl, hC⟩
      refine ⟨_, rfl, ?_⟩
      simp only [Act.put, sia, sc0, scs]
      have xh4 : w60.heap[w.heap.size + 1 + 1]? = some (.cells (z12) 45 (0, 0)) := (heap_call hC xh4)
      have hS := hS.call hC
      have hz60 := hC.size
      clear hC
      refine hK.out _ _ hS ?_
      clear hK K
      intro _
      have hSz := hS.size
      refine wpAnyH_ready (rs := [14]) (by kernel_rfl) (by simp) ?_
      refine (AllReadyH.cons rfl ?_ AllReadyH.nil)
      intro K hK
      refine ready_call rfl (some 80) rfl 45 #[.agg (numC R14.val), .agg (numC R7.val), .agg (numC pF)] (by go_simp) ?_
      refine (stimes_ff R14 R7 R15 HR15 _).mono ?_
      rintro e w61 ⟨rfl, hC⟩
      refine ⟨_, rfl, ?_⟩
      simp only [Act.put, sia, sc0, scs]
      have xh4 : w61.heap[w.heap.size + 1 + 1]? = some (.cells (z12) 45 (0, 0)) := (heap_call hC xh4)
      have hS := hS.call hC
      have hz61 := hC.size
      clear hC
      refine hK.out _ _ hS ?_
      clear hK K
      intro _
      have hSz := hS.size
      refine wpAnyH_ready (rs := [16]) (by kernel_rfl) (by simp) ?_
      refine (AllReadyH.cons rfl ?_ AllReadyH.nil)
      intro K hK
      refine ready_call rfl (some 82) rfl 45 #[.agg (numC R1.val), .agg (numC R15.val), .agg (numC pF)] (by go_simp) ?_
      refine (stimes_ff R1 R15 R16 HR16 _).mono ?_
      rintro e w62 ⟨rfl, hC⟩
      refine ⟨_, rfl, ?_⟩
      simp only [Act.put, sia, sc0, scs]
      have xh4 : w62.heap[w.heap.size + 1 + 1]? = some (.cells (z12) 45 (0, 0)) := (heap_call hC xh4)
      have hS := hS.call hC
      have hz62 := hC.size
      clear hC
      refine hK.out _ _ hS ?_
      clear hK K
      intro _
      have hSz := hS.size
      refine wpAnyH_ready (rs := [20]) (by kernel_rfl) (by simp) ?_
      refine (AllReadyH.cons rfl ?_ AllReadyH.nil)
      intro K hK
      refine ready_call rfl (some 86) rfl 45 #[.agg (numC R7.val), .agg (numC R8.val), .agg (numC pF)] (by go_simp) ?_
      refine (stimes_ff R7 R8 R17 HR17 _).mono ?_
      rintro e w63 ⟨rfl, hC⟩
      refine ⟨_, rfl, ?_⟩
      simp only [Act.put, sia, sc0, scs]
      have xh4 : w63.heap[w.heap.size + 1 + 1]? = some (.cells (z12) 45 (0, 0)) := (heap_call hC xh4)
      have hS := hS.call hC
      have hz63 := hC.size
      clear hC
      refine hK.out _ _ hS ?_
      clear hK K
      intro _
      have hSz := hS.size
      refine takeAtK (i := 21) (v := .agg (ptC (R13.val) (R16.val) (R17.val))) rfl (some 87) rfl (take_built rfl 45 _ rfl (ptC (R13.val) (R16.val) (R17.val)) (by kernel_rfl)) hS ?_
      simp only [Act.put, sia, sc0, scs]
      refine wpAnyH_ready (rs := [22]) (by kernel_rfl) (by simp) ?_
      refine (AllReadyH.cons rfl ?_ AllReadyH.nil)
      intro K hK
      rw [if_pos (by rfl)]
      refine wp_store_row 45 _ _ rfl (w.heap.size + 1 + 1) (ptC (R13.val) (R16.val) (R17.val)) rfl rfl 45 (z12) xh4 (infoPt_of (ptC (R13.val) (R16.val) (R17.val)) (ptC_size _ _ _)) (z12_size.trans (ptC_size _ _ _).symm) (ptC_one _ _ _) ?_
      refine put_at (none) rfl ?_
      simp only [Act.put, sia, sc0, scs]
      have xh4 : (w63.setRow (w.heap.size + 1 + 1) (ptC (R13.val) (R16.val) (R17.val))).heap[w.heap.size + 1 + 1]? = some (.cells (ptC (R13.val) (R16.val) (R17.val)) 45 (0, 0)) := (setRow_heap _ _ _ _ _ _ xh4)
      have hS := hS.store (ptC (R13.val) (R16.val) (R17.val))
      generalize w63.setRow (w.heap.size + 1 + 1) (ptC (R13.val) (R16.val) (R17.val)) = w64 at *
      refine hK.out _ _ hS ?_
      clear hK K
      intro _
      have hSz := hS.size
      refine wpAnyH_done (by kernel_rfl) ?_ _
      refine NoPanic.normal ?_
      have hsz := hS.size
      have h2 : w64.heap[w.heap.size]? = some (.cells (ptC (X.val) (Y.val) (Z.val)) 45 (0, 0)) := hS.old h2 (by omega)
      have h3 : w64.heap[w.heap.size + 1]? = some (.cells (ptC (X2.val) (Y2.val) (Z2.val)) 45 (0, 0)) := hS.old h3 (by omega)
      have h5 : w64.heap[w1.heap.size]? = some (.cells (numC pF) 43 (0, 0)) := hS.old h5 (by omega)
      have h6 : w64.heap[w2.heap.size]? = some (.cells (numC R1.val) 43 (0, 0)) := hS.old h6 (by omega)
      have h7 : w64.heap[w3.heap.size]? = some (.cells (numC R2.val) 43 (0, 0)) := hS.old h7 (by omega)
      have h8 : w64.heap[w4.heap.size]? = some (.cells (numC R3.val) 43 (0, 0)) := hS.old h8 (by omega)
      have h9 : w64.heap[g9]? = some (.cells (numC R5.val) 43 (0, 0)) := hS.old h9 (by omega)
      have h10 : w64.heap[w29.heap.size]? = some (.cells (numC R6.val) 43 (0, 0)) := hS.old h10 (by omega)
      have h11 : w64.heap[w30.heap.size]? = some (.cells (numC R7.val) 43 (0, 0)) := hS.old h11 (by omega)
      have h12 : w64.heap[w31.heap.size]? = some (.cells (numC R8.val) 43 (0, 0)) := hS.old h12 (by omega)
      have h13 : w64.heap[g13]? = some (.cells (numC R11.val) 43 (0, 0)) := hS.old h13 (by omega)
      have h4 := xh4
      have hBw64 : Hid (Below w.heap.size w w64) := Lib.hid (hBw56.out.trans (hS.below (by omega) hBw56.out.size))
      clear hS
      go_wp2
      refine bodyPost_ret (results_cell_row rfl _ _ (w.heap.size + 1 + 1) 45 (ptC (R13.val) (R16.val) (R17.val)) (0, 0) _ rfl h4 underPt rfl (infoPt_of (ptC (R13.val) (R16.val) (R17.val)) (ptC_size _ _ _))) rfl ⟨R13, R16, R17, rfl, hBw64.out, ?_⟩
      simp only [HR17.out, HR16.out, HR15.out, HR14.out, HR13.out, HR12.out, HR11.out, HR10.out, HR9.out, HR8.out, HR7.out, HR6.out, HR5.out, HR4.out, HR3.out, HR2.out, HR1.out]
      exact Rp.added rA rB
end

section
open Go.RowKit
set_option maxHeartbeats 4000000 in
theorem sSub_ss (N M : Nat) (P Q : CP) (lN : N < 256 ^ 32) (hN : Hid (decP N = some P)) (lM : M < 256 ^ 32) (hM : Hid (decP M = some Q)) (w : World) :
    Calls Tryd.prog 22 #[.agg (arrC N), .agg (arrC M)] w fun e w' => e = .returned (.tuple #[.agg (arrC (encN (P.add Q.neg))), .bool true]) ∧ Below w.heap.size w w' := by
  go_enter Tryd.func22, Tryd.ntmps22
  go_wp2_with (first
    | ((with_reducible refine at_dst 11 ?_); refine wpList_load_row rfl 22 _ rfl (w.heap.size) rfl 22 (arrC N) (0, 0) _ (heap_old _ (heap_old _ (heap_new_at _ _ _ rfl))) under32 rfl (info32_of (arrC N) (arrC_size _)) ?_))
  refine (sdecoded_some N P lN hN.out _).mono ?_
  rintro e w1 ⟨rfl, hC1⟩
  have hs1 : w.heap.size + 1 + 1 + 1 ≤ w1.heap.size := by have := hC1.size; (try simp only [alloc_size, setRow_size] at this); omega
  replace h2 : w1.heap[w.heap.size]? = some (.cells (arrC N) 22 (0, 0)) := (heap_call hC1 (heap_old _ (heap_old _ (heap_new_at _ _ _ rfl))))
  replace h3 : w1.heap[w.heap.size + 1]? = some (.cells (arrC M) 22 (0, 0)) := (heap_call hC1 (heap_old _ (heap_new_at _ _ _ (by simp only [alloc_size, setRow_size]))))
  replace h4 : w1.heap[w.heap.size + 1 + 1]? = some (.cells (zL) 22 (0, 0)) := (heap_call hC1 (heap_new_at _ _ _ (by simp only [alloc_size, setRow_size])))
  have hBw1 : Hid (Below w.heap.size w w1) := Lib.hid (below_call (below_alloc (below_alloc (below_alloc (Below.refl _ w) _) _) _) hC1)
  clear hC1
  go_wp2_with (first
    | ((with_reducible refine at_store 6 ?_); refine wpList_store_row rfl 45 _ _ rfl (w1.heap.size) (ptC (P.x.val) (P.y.val) ((1 : Fp).val)) rfl rfl 45 (z12) (heap_new_at _ _ _ rfl) (infoPt_of (ptC (P.x.val) (P.y.val) ((1 : Fp).val)) (ptC_size _ _ _)) (z12_size.trans (ptC_size _ _ _).symm) (ptC_one _ _ _) ?_)
    | ((with_reducible refine at_dst 16 ?_); refine wpList_load_row rfl 22 _ rfl (w.heap.size + 1) rfl 22 (arrC M) (0, 0) _ (heap_row _ (by omega) (heap_old _ h3)) under32 rfl (info32_of (arrC M) (arrC_size _)) ?_))
  refine (sdecoded_some M Q lM hM.out _).mono ?_
  rintro e w2 ⟨rfl, hC2⟩
  have hs2 : w1.heap.size + 1 ≤ w2.heap.size := by have := hC2.size; (try simp only [alloc_size, setRow_size] at this); omega
  replace h2 : w2.heap[w.heap.size]? = some (.cells (arrC N) 22 (0, 0)) := (heap_call hC2 (heap_row _ (by omega) (heap_old _ h2)))
  replace h3 : w2.heap[w.heap.size + 1]? = some (.cells (arrC M) 22 (0, 0)) := (heap_call hC2 (heap_row _ (by omega) (heap_old _ h3)))
  replace h4 : w2.heap[w.heap.size + 1 + 1]? = some (.cells (zL) 22 (0, 0)) := (heap_call hC2 (heap_row _ (by omega) (heap_old _ h4)))
  replace h6 : w2.heap[w1.heap.size]? = some (.cells (ptC (P.x.val) (P.y.val) ((1 : Fp).val)) 45 (0, 0)) := (heap_call hC2 (setRow_heap _ _ _ _ _ _ (heap_new_at _ _ _ rfl)))
  have hBw2 : Hid (Below w.heap.size w w2) := Lib.hid (below_call (below_setRow (below_alloc hBw1.out _) (by omega) _) hC2)
  clear hC2
  go_wp2_with (first
    | ((with_reducible refine at_store 8 ?_); refine wpList_store_row rfl 45 _ _ rfl (w2.heap.size) (ptC (Q.x.val) (Q.y.val) ((1 : Fp).val)) rfl rfl 45 (z12) (heap_new_at _ _ _ rfl) (infoPt_of (ptC (Q.x.val) (Q.y.val) ((1 : Fp).val)) (ptC_size _ _ _)) (z12_size.trans (ptC_size _ _ _).symm) (ptC_one _ _ _) ?_))
  try simp only [Act.put]
  refine wp_named ?_
  intro w3 ew3
  have hs3 : w2.heap.size + 1 ≤ w3.heap.size := by rw [ew3]; (try simp only [alloc_size, setRow_size]); omega
  replace h2 : w3.heap[w.heap.size]? = some (.cells (arrC N) 22 (0, 0)) := by rw [ew3]; exact (heap_row _ (by omega) (heap_old _ h2))
  replace h3 : w3.heap[w.heap.size + 1]? = some (.cells (arrC M) 22 (0, 0)) := by rw [ew3]; exact (heap_row _ (by omega) (heap_old _ h3))
  replace h4 : w3.heap[w.heap.size + 1 + 1]? = some (.cells (zL) 22 (0, 0)) := by rw [ew3]; exact (heap_row _ (by omega) (heap_old _ h4))
  replace h6 : w3.heap[w1.heap.size]? = some (.cells (ptC (P.x.val) (P.y.val) ((1 : Fp).val)) 45 (0, 0)) := by rw [ew3]; exact (heap_row _ (by omega) (heap_old _ h6))
  replace h8 : w3.heap[w2.heap.size]? = some (.cells (ptC (Q.x.val) (Q.y.val) ((1 : Fp).val)) 45 (0, 0)) := by rw [ew3]; exact (setRow_heap _ _ _ _ _ _ (heap_new_at _ _ _ rfl))
  have hBw3 : Hid (Below w.heap.size w w3) := Lib.hid (by rw [ew3]; exact (below_setRow (below_alloc hBw2.out _) (by omega) _))
  clear ew3
  refine wp_region_noPanic ?_
  refine wp_region_held_drew (S := Keep (w.heap.size + 1 + 1) w3) (by kernel_rfl) (Keep.start _ _) ?_
  intro hS
  obtain ⟨w4, ed⟩ : ∃ u : World, u = w3.drew := ⟨_, rfl⟩
  rw [← ed] at hS ⊢
  have xh2 : w4.heap[w.heap.size]? = some (.cells (arrC N) 22 (0, 0)) := by rw [ed]; exact h2
  have xh3 : w4.heap[w.heap.size + 1]? = some (.cells (arrC M) 22 (0, 0)) := by rw [ed]; exact h3
  have xh4 : w4.heap[w.heap.size + 1 + 1]? = some (.cells (zL) 22 (0, 0)) := by rw [ed]; exact h4
  have xh6 : w4.heap[w1.heap.size]? = some (.cells (ptC (P.x.val) (P.y.val) ((1 : Fp).val)) 45 (0, 0)) := by rw [ed]; exact h6
  have xh8 : w4.heap[w2.heap.size]? = some (.cells (ptC (Q.x.val) (Q.y.val) ((1 : Fp).val)) 45 (0, 0)) := by rw [ed]; exact h8
  clear ed
  have hSz := hS.size
  clear xh2
  clear xh3
  clear xh6
  clear xh8
  refine takeAtK (i := 0) (v := .agg (ptC (P.x.val) (P.y.val) ((1 : Fp).val))) rfl (some 27) rfl (take_row rfl _ _ rfl (w1.heap.size) rfl _ _ _ h6 (by omega) underPt rfl (infoPt_of (ptC (P.x.val) (P.y.val) ((1 : Fp).val)) (ptC_size _ _ _))) hS ?_
  simp only [Act.put, sia, sc0, scs]
  refine takeAtK (i := 1) (v := .agg (ptC (Q.x.val) (Q.y.val) ((1 : Fp).val))) rfl (some 28) rfl (take_row rfl _ _ rfl (w2.heap.size) rfl _ _ _ h8 (by omega) underPt rfl (infoPt_of (ptC (Q.x.val) (Q.y.val) ((1 : Fp).val)) (ptC_size _ _ _))) hS ?_
  simp only [Act.put, sia, sc0, scs]
  refine wpAnyH_ready (rs := [2]) (by kernel_rfl) (by simp) ?_
  refine (AllReadyH.cons rfl ?_ AllReadyH.nil)
  intro K hK
  refine ready_call rfl (some 29) rfl 38 #[.agg (ptC (Q.x.val) (Q.y.val) ((1 : Fp).val))] (by go_simp) ?_
  refine (snegated Q _ _ _ (Rp.one Q) _).mono ?_
  rintro e w5 ⟨xa5_2, ya5_2, za5_2, rfl, hC, hr5_2⟩
  refine ⟨_, rfl, ?_⟩
  simp only [Act.put, sia, sc0, scs]
  have xh4 : w5.heap[w.heap.size + 1 + 1]? = some (.cells (zL) 22 (0, 0)) := (heap_call hC xh4)
  have hS := hS.call hC
  have hz5 := hC.size
  clear hC
  refine hK.out _ _ hS ?_
  clear hK K
  intro _
  have hSz := hS.size
  refine wpAnyH_ready (rs := [3]) (by kernel_rfl) (by simp) ?_
  refine (AllReadyH.cons rfl ?_ AllReadyH.nil)
  intro K hK
  refine ready_call rfl (some 30) rfl 37 #[.agg (ptC (P.x.val) (P.y.val) ((1 : Fp).val)), .agg (ptC (xa5_2.val) (ya5_2.val) (za5_2.val))] (by go_simp) ?_
  refine (sadded P Q.neg _ _ _ _ _ _ (Rp.one P) hr5_2 _).mono ?_
  rintro e w6 ⟨xa5_3, ya5_3, za5_3, rfl, hC, hr5_3⟩
  refine ⟨_, rfl, ?_⟩
  simp only [Act.put, sia, sc0, scs]
  have xh4 : w6.heap[w.heap.size + 1 + 1]? = some (.cells (zL) 22 (0, 0)) := (heap_call hC xh4)
  have hS := hS.call hC
  have hz6 := hC.size
  clear hC
  refine hK.out _ _ hS ?_
  clear hK K
  intro _
  have hSz := hS.size
  refine wpAnyH_ready (rs := [4]) (by kernel_rfl) (by simp) ?_
  refine (AllReadyH.cons rfl ?_ AllReadyH.nil)
  intro K hK
  refine ready_call rfl (some 31) rfl 32 #[.agg (ptC (xa5_3.val) (ya5_3.val) (za5_3.val))] (by go_simp) ?_
  refine (sencoded (P.add Q.neg) _ _ _ hr5_3 _).mono ?_
  rintro e w7 ⟨rfl, hC⟩
  refine ⟨_, rfl, ?_⟩
  simp only [Act.put, sia, sc0, scs]
  have xh4 : w7.heap[w.heap.size + 1 + 1]? = some (.cells (zL) 22 (0, 0)) := (heap_call hC xh4)
  have hS := hS.call hC
  have hz7 := hC.size
  clear hC
  refine hK.out _ _ hS ?_
  clear hK K
  intro _
  have hSz := hS.size
  refine wpAnyH_ready (rs := [5]) (by kernel_rfl) (by simp) ?_
  refine (AllReadyH.cons rfl ?_ AllReadyH.nil)
  intro K hK
  rw [if_pos (by rfl)]
  refine wp_store_row 22 _ _ rfl (w.heap.size + 1 + 1) (arrC (encN (P.add Q.neg))) rfl rfl 22 (zL) xh4 (info32_of (arrC (encN (P.add Q.neg))) (arrC_size _)) (zL_size.trans (arrC_size _).symm) (arrC_one _) ?_
  refine put_at (none) rfl ?_
  simp only [Act.put, sia, sc0, scs]
  have xh4 : (w7.setRow (w.heap.size + 1 + 1) (arrC (encN (P.add Q.neg)))).heap[w.heap.size + 1 + 1]? = some (.cells (arrC (encN (P.add Q.neg))) 22 (0, 0)) := (setRow_heap _ _ _ _ _ _ xh4)
  have hS := hS.store (arrC (encN (P.add Q.neg)))
  generalize w7.setRow (w.heap.size + 1 + 1) (arrC (encN (P.add Q.neg))) = w8 at *
  refine hK.out _ _ hS ?_
  clear hK K
  intro _
  have hSz := hS.size
  refine takeAtK (i := 6) (v := .bool true) rfl (some 5) rfl (take_run rfl (fun _ _ => by go_simp)) hS ?_
  simp only [Act.put, sia, sc0, scs]
  refine wpAnyH_done (by kernel_rfl) ?_ _
  refine NoPanic.normal ?_
  have hsz := hS.size
  have h2 : w8.heap[w.heap.size]? = some (.cells (arrC N) 22 (0, 0)) := hS.old h2 (by omega)
  have h3 : w8.heap[w.heap.size + 1]? = some (.cells (arrC M) 22 (0, 0)) := hS.old h3 (by omega)
  have h6 : w8.heap[w1.heap.size]? = some (.cells (ptC (P.x.val) (P.y.val) ((1 : Fp).val)) 45 (0, 0)) := hS.old h6 (by omega)
  have h8 : w8.heap[w2.heap.size]? = some (.cells (ptC (Q.x.val) (Q.y.val) ((1 : Fp).val)) 45 (0, 0)) := hS.old h8 (by omega)
  have h4 := xh4
  have hBw8 : Hid (Below w.heap.size w w8) := Lib.hid (hBw3.out.trans (hS.below (by omega) hBw3.out.size))
  clear hS
  go_wp2
  refine bodyPost_ret (results_row_tmp rfl _ _ (w.heap.size + 1 + 1) 22 (arrC (encN (P.add Q.neg))) (0, 0) _ rfl h4 under32 rfl (info32_of (arrC (encN (P.add Q.neg))) (arrC_size _))) rfl ⟨rfl, hBw8.out⟩
set_option maxHeartbeats 4000000 in
theorem sSub_sn (N M : Nat) (P : CP) (lN : N < 256 ^ 32) (hN : Hid (decP N = some P)) (lM : M < 256 ^ 32) (hM : Hid (decP M = none)) (w : World) :
    Calls Tryd.prog 22 #[.agg (arrC N), .agg (arrC M)] w fun e w' => e = .returned (.tuple #[.agg (zL), .bool false]) ∧ Below w.heap.size w w' := by
  go_enter Tryd.func22, Tryd.ntmps22
  go_wp2_with (first
    | ((with_reducible refine at_dst 11 ?_); refine wpList_load_row rfl 22 _ rfl (w.heap.size) rfl 22 (arrC N) (0, 0) _ (heap_old _ (heap_old _ (heap_new_at _ _ _ rfl))) under32 rfl (info32_of (arrC N) (arrC_size _)) ?_))
  refine (sdecoded_some N P lN hN.out _).mono ?_
  rintro e w1 ⟨rfl, hC1⟩
  have hs1 : w.heap.size + 1 + 1 + 1 ≤ w1.heap.size := by have := hC1.size; (try simp only [alloc_size, setRow_size] at this); omega
  replace h2 : w1.heap[w.heap.size]? = some (.cells (arrC N) 22 (0, 0)) := (heap_call hC1 (heap_old _ (heap_old _ (heap_new_at _ _ _ rfl))))
  replace h3 : w1.heap[w.heap.size + 1]? = some (.cells (arrC M) 22 (0, 0)) := (heap_call hC1 (heap_old _ (heap_new_at _ _ _ (by simp only [alloc_size, setRow_size]))))
  replace h4 : w1.heap[w.heap.size + 1 + 1]? = some (.cells (zL) 22 (0, 0)) := (heap_call hC1 (heap_new_at _ _ _ (by simp only [alloc_size, setRow_size])))
  have hBw1 : Hid (Below w.heap.size w w1) := Lib.hid (below_call (below_alloc (below_alloc (below_alloc (Below.refl _ w) _) _) _) hC1)
  clear hC1
  go_wp2_with (first
    | ((with_reducible refine at_store 6 ?_); refine wpList_store_row rfl 45 _ _ rfl (w1.heap.size) (ptC (P.x.val) (P.y.val) ((1 : Fp).val)) rfl rfl 45 (z12) (heap_new_at _ _ _ rfl) (infoPt_of (ptC (P.x.val) (P.y.val) ((1 : Fp).val)) (ptC_size _ _ _)) (z12_size.trans (ptC_size _ _ _).symm) (ptC_one _ _ _) ?_)
    | ((with_reducible refine at_dst 16 ?_); refine wpList_load_row rfl 22 _ rfl (w.heap.size + 1) rfl 22 (arrC M) (0, 0) _ (heap_row _ (by omega) (heap_old _ h3)) under32 rfl (info32_of (arrC M) (arrC_size _)) ?_))
  refine (sdecoded_none M lM hM.out _).mono ?_
  rintro e w2 ⟨rfl, hC2⟩
  have hs2 : w1.heap.size + 1 ≤ w2.heap.size := by have := hC2.size; (try simp only [alloc_size, setRow_size] at this); omega
  replace h2 : w2.heap[w.heap.size]? = some (.cells (arrC N) 22 (0, 0)) := (heap_call hC2 (heap_row _ (by omega) (heap_old _ h2)))
  replace h3 : w2.heap[w.heap.size + 1]? = some (.cells (arrC M) 22 (0, 0)) := (heap_call hC2 (heap_row _ (by omega) (heap_old _ h3)))
  replace h4 : w2.heap[w.heap.size + 1 + 1]? = some (.cells (zL) 22 (0, 0)) := (heap_call hC2 (heap_row _ (by omega) (heap_old _ h4)))
  replace h6 : w2.heap[w1.heap.size]? = some (.cells (ptC (P.x.val) (P.y.val) ((1 : Fp).val)) 45 (0, 0)) := (heap_call hC2 (setRow_heap _ _ _ _ _ _ (heap_new_at _ _ _ rfl)))
  have hBw2 : Hid (Below w.heap.size w w2) := Lib.hid (below_call (below_setRow (below_alloc hBw1.out _) (by omega) _) hC2)
  clear hC2
  go_wp2_with (first
    | ((with_reducible refine at_store 8 ?_); refine wpList_store_row rfl 45 _ _ rfl (w2.heap.size) (z12) rfl rfl 45 (z12) (heap_new_at _ _ _ rfl) (infoPt_of (z12) z12_size) (z12_size.trans z12_size.symm) z12_one ?_)
    | ((with_reducible refine at_store 4 ?_); refine wpList_store_row rfl 22 _ _ rfl (w.heap.size + 1 + 1) (zL) rfl rfl 22 (zL) (heap_row _ (by omega) (heap_old _ h4)) (info32_of (zL) zL_size) (zL_size.trans zL_size.symm) zL_one ?_))
  refine bodyPost_ret (results_row_tmp rfl _ _ (w.heap.size + 1 + 1) 22 (zL) (0, 0) _ rfl (setRow_heap _ _ _ _ _ _ (heap_row _ (by omega) (heap_old _ h4))) under32 rfl (info32_of (zL) zL_size)) rfl ⟨rfl, (below_setRow (below_setRow (below_alloc hBw2.out _) (by omega) _) (by omega) _)⟩
set_option maxHeartbeats 4000000 in
theorem sSub_ns (N M : Nat) (Q : CP) (lN : N < 256 ^ 32) (hN : Hid (decP N = none)) (lM : M < 256 ^ 32) (hM : Hid (decP M = some Q)) (w : World) :
    Calls Tryd.prog 22 #[.agg (arrC N), .agg (arrC M)] w fun e w' => e = .returned (.tuple #[.agg (zL), .bool false]) ∧ Below w.heap.size w w' := by
  go_enter Tryd.func22, Tryd.ntmps22
  go_wp2_with (first
    | ((with_reducible refine at_dst 11 ?_); refine wpList_load_row rfl 22 _ rfl (w.heap.size) rfl 22 (arrC N) (0, 0) _ (heap_old _ (heap_old _ (heap_new_at _ _ _ rfl))) under32 rfl (info32_of (arrC N) (arrC_size _)) ?_))
  refine (sdecoded_none N lN hN.out _).mono ?_
  rintro e w1 ⟨rfl, hC1⟩
  have hs1 : w.heap.size + 1 + 1 + 1 ≤ w1.heap.size := by have := hC1.size; (try simp only [alloc_size, setRow_size] at this); omega
  replace h2 : w1.heap[w.heap.size]? = some (.cells (arrC N) 22 (0, 0)) := (heap_call hC1 (heap_old _ (heap_old _ (heap_new_at _ _ _ rfl))))
  replace h3 : w1.heap[w.heap.size + 1]? = some (.cells (arrC M) 22 (0, 0)) := (heap_call hC1 (heap_old _ (heap_new_at _ _ _ (by simp only [alloc_size, setRow_size]))))
  replace h4 : w1.heap[w.heap.size + 1 + 1]? = some (.cells (zL) 22 (0, 0)) := (heap_call hC1 (heap_new_at _ _ _ (by simp only [alloc_size, setRow_size])))
  have hBw1 : Hid (Below w.heap.size w w1) := Lib.hid (below_call (below_alloc (below_alloc (below_alloc (Below.refl _ w) _) _) _) hC1)
  clear hC1
  go_wp2_with (first
    | ((with_reducible refine at_store 6 ?_); refine wpList_store_row rfl 45 _ _ rfl (w1.heap.size) (z12) rfl rfl 45 (z12) (heap_new_at _ _ _ rfl) (infoPt_of (z12) z12_size) (z12_size.trans z12_size.symm) z12_one ?_)
    | ((with_reducible refine at_dst 16 ?_); refine wpList_load_row rfl 22 _ rfl (w.heap.size + 1) rfl 22 (arrC M) (0, 0) _ (heap_row _ (by omega) (heap_old _ h3)) under32 rfl (info32_of (arrC M) (arrC_size _)) ?_))
  refine (sdecoded_some M Q lM hM.out _).mono ?_
  rintro e w2 ⟨rfl, hC2⟩
  have hs2 : w1.heap.size + 1 ≤ w2.heap.size := by have := hC2.size; (try simp only [alloc_size, setRow_size] at this); omega
  replace h2 : w2.heap[w.heap.size]? = some (.cells (arrC N) 22 (0, 0)) := (heap_call hC2 (heap_row _ (by omega) (heap_old _ h2)))
  replace h3 : w2.heap[w.heap.size + 1]? = some (.cells (arrC M) 22 (0, 0)) := (heap_call hC2 (heap_row _ (by omega) (heap_old _ h3)))
  replace h4 : w2.heap[w.heap.size + 1 + 1]? = some (.cells (zL) 22 (0, 0)) := (heap_call hC2 (heap_row _ (by omega) (heap_old _ h4)))
  replace h6 : w2.heap[w1.heap.size]? = some (.cells (z12) 45 (0, 0)) := (heap_call hC2 (setRow_heap _ _ _ _ _ _ (heap_new_at _ _ _ rfl)))
  have hBw2 : Hid (Below w.heap.size w w2) := Lib.hid (below_call (below_setRow (below_alloc hBw1.out _) (by omega) _) hC2)
  clear hC2
  go_wp2_with (first
    | ((with_reducible refine at_store 8 ?_); refine wpList_store_row rfl 45 _ _ rfl (w2.heap.size) (ptC (Q.x.val) (Q.y.val) ((1 : Fp).val)) rfl rfl 45 (z12) (heap_new_at _ _ _ rfl) (infoPt_of (ptC (Q.x.val) (Q.y.val) ((1 : Fp).val)) (ptC_size _ _ _)) (z12_size.trans (ptC_size _ _ _).symm) (ptC_one _ _ _) ?_)
    | ((with_reducible refine at_store 4 ?_); refine wpList_store_row rfl 22 _ _ rfl (w.heap.size + 1 + 1) (zL) rfl rfl 22 (zL) (heap_row _ (by omega) (heap_old _ h4)) (info32_of (zL) zL_size) (zL_size.trans zL_size.symm) zL_one ?_))
  refine bodyPost_ret (results_row_tmp rfl _ _ (w.heap.size + 1 + 1) 22 (zL) (0, 0) _ rfl (setRow_heap _ _ _ _ _ _ (heap_row _ (by omega) (heap_old _ h4))) under32 rfl (info32_of (zL) zL_size)) rfl ⟨rfl, (below_setRow (below_setRow (below_alloc hBw2.out _) (by omega) _) (by omega) _)⟩
set_option maxHeartbeats 4000000 in
theorem sSub_nn (N M : Nat) (lN : N < 256 ^ 32) (hN : Hid (decP N = none)) (lM : M < 256 ^ 32) (hM : Hid (decP M = none)) (w : World) :
    Calls Tryd.prog 22 #[.agg (arrC N), .agg (arrC M)] w fun e w' => e = .returned (.tuple #[.agg (zL), .bool false]) ∧ Below w.heap.size w w' := by
  go_enter Tryd.func22, Tryd.ntmps22
  go_wp2_with (first
    | ((with_reducible refine at_dst 11 ?_); refine wpList_load_row rfl 22 _ rfl (w.heap.size) rfl 22 (arrC N) (0, 0) _ (heap_old _ (heap_old _ (heap_new_at _ _ _ rfl))) under32 rfl (info32_of (arrC N) (arrC_size _)) ?_))
  refine (sdecoded_none N lN hN.out _).mono ?_
  rintro e w1 ⟨rfl, hC1⟩
  have hs1 : w.heap.size + 1 + 1 + 1 ≤ w1.heap.size := by have := hC1.size; (try simp only [alloc_size, setRow_size] at this); omega
  replace h2 : w1.heap[w.heap.size]? = some (.cells (arrC N) 22 (0, 0)) := (heap_call hC1 (heap_old _ (heap_old _ (heap_new_at _ _ _ rfl))))
  replace h3 : w1.heap[w.heap.size + 1]? = some (.cells (arrC M) 22 (0, 0)) := (heap_call hC1 (heap_old _ (heap_new_at _ _ _ (by simp only [alloc_size, setRow_size]))))
  replace h4 : w1.heap[w.heap.size + 1 + 1]? = some (.cells (zL) 22 (0, 0)) := (heap_call hC1 (heap_new_at _ _ _ (by simp only [alloc_size, setRow_size])))
  have hBw1 : Hid (Below w.heap.size w w1) := Lib.hid (below_call (below_alloc (below_alloc (below_alloc (Below.refl _ w) _) _) _) hC1)
  clear hC1
  go_wp2_with (first
    | ((with_reducible refine at_store 6 ?_); refine wpList_store_row rfl 45 _ _ rfl (w1.heap.size) (z12) rfl rfl 45 (z12) (heap_new_at _ _ _ rfl) (infoPt_of (z12) z12_size) (z12_size.trans z12_size.symm) z12_one ?_)
    | ((with_reducible refine at_dst 16 ?_); refine wpList_load_row rfl 22 _ rfl (w.heap.size + 1) rfl 22 (arrC M) (0, 0) _ (heap_row _ (by omega) (heap_old _ h3)) under32 rfl (info32_of (arrC M) (arrC_size _)) ?_))
  refine (sdecoded_none M lM hM.out _).mono ?_
  rintro e w2 ⟨rfl, hC2⟩
  have hs2 : w1.heap.size + 1 ≤ w2.heap.size := by have := hC2.size; (try simp only [alloc_size, setRow_size] at this); omega
  replace h2 : w2.heap[w.heap.size]? = some (.cells (arrC N) 22 (0, 0)) := (heap_call hC2 (heap_row _ (by omega) (heap_old _ h2)))
  replace h3 : w2.heap[w.heap.size + 1]? = some (.cells (arrC M) 22 (0, 0)) := (heap_call hC2 (heap_row _ (by omega) (heap_old _ h3)))
  replace h4 : w2.heap[w.heap.size + 1 + 1]? = some (.cells (zL) 22 (0, 0)) := (heap_call hC2 (heap_row _ (by omega) (heap_old _ h4)))
  replace h6 : w2.heap[w1.heap.size]? = some (.cells (z12) 45 (0, 0)) := (heap_call hC2 (setRow_heap _ _ _ _ _ _ (heap_new_at _ _ _ rfl)))
  have hBw2 : Hid (Below w.heap.size w w2) := Lib.hid (below_call (below_setRow (below_alloc hBw1.out _) (by omega) _) hC2)
  clear hC2
  go_wp2_with (first
    | ((with_reducible refine at_store 8 ?_); refine wpList_store_row rfl 45 _ _ rfl (w2.heap.size) (z12) rfl rfl 45 (z12) (heap_new_at _ _ _ rfl) (infoPt_of (z12) z12_size) (z12_size.trans z12_size.symm) z12_one ?_)
    | ((with_reducible refine at_store 4 ?_); refine wpList_store_row rfl 22 _ _ rfl (w.heap.size + 1 + 1) (zL) rfl rfl 22 (zL) (heap_row _ (by omega) (heap_old _ h4)) (info32_of (zL) zL_size) (zL_size.trans zL_size.symm) zL_one ?_))
  refine bodyPost_ret (results_row_tmp rfl _ _ (w.heap.size + 1 + 1) 22 (zL) (0, 0) _ rfl (setRow_heap _ _ _ _ _ _ (heap_row _ (by omega) (heap_old _ h4))) under32 rfl (info32_of (zL) zL_size)) rfl ⟨rfl, (below_setRow (below_setRow (below_alloc hBw2.out _) (by omega) _) (by omega) _)⟩
theorem sSub_sse (P Q : CP) (E : Nat) (HE : Hid (E = encN (P.add Q.neg))) (N M : Nat) (lN : N < 256 ^ 32) (hN : Hid (decP N = some P)) (lM : M < 256 ^ 32) (hM : Hid (decP M = some Q)) (w : World) :
    Calls Tryd.prog 22 #[.agg (arrC N), .agg (arrC M)] w fun e w' => e = .returned (.tuple #[.agg (arrC E), .bool true]) ∧ Below w.heap.size w w' := by
  rw [HE.out]
  exact sSub_ss N M P Q lN hN lM hM w
end

section
open Go.RowKit
set_option maxHeartbeats 4000000 in
theorem PtSub_ss (N : Nat) (M : Nat) (P : CP) (Q : CP) (lN : N < 256 ^ 32) (hN : Hid (decP N = some P)) (lM : M < 256 ^ 32) (hM : Hid (decP M = some Q)) (B : Nat) (w : World) (hD0 : Var 1 z5 B w) (hD1 : Var 0 i5 B w) (hD2 : Var 2 o5 B w) :
    Calls Tryd.prog 7 #[.agg (arrC N), .agg (arrC M)] w fun e w' => e = .returned (.bool true) ∧ Below w.heap.size w w' := by
  have hBl := hD0.1
  obtain ⟨E1, qE1⟩ : ∃ u : Nat, u = encN (P.add Q.neg) := ⟨_, rfl⟩
  have HE1 := Lib.hid qE1
  have lE1 : E1 < 256 ^ 32 := by rw [qE1]; exact encN_lt _
  clear qE1
  have e1 : ∀ u : World, (Op.equalIn 10000 22 (.agg (arrC E1)) (.agg (arrC E1))).run Tryd.prog u = .ok true u := fun u => by rw [run_eq_arr _ _ lE1 lE1 u]; simp
  go_enter Tryd.func7, Tryd.ntmps7
  go_wp2_with (first
    | ((with_reducible refine at_dst 10 ?_); refine wpList_load_row rfl 22 _ rfl (w.heap.size) rfl 22 (arrC N) (0, 0) _ (heap_old _ (heap_new_at _ _ _ rfl)) under32 rfl (info32_of (arrC N) (arrC_size _)) ?_)
    | ((with_reducible refine at_dst 11 ?_); refine wpList_load_row rfl 22 _ rfl (w.heap.size + 1) rfl 22 (arrC M) (0, 0) _ (heap_new_at _ _ _ (by simp only [alloc_size, setRow_size])) under32 rfl (info32_of (arrC M) (arrC_size _)) ?_))
  refine (iSub_sse P Q E1 HE1 N M  lN hN lM hM B _ (hD0.later (below_alloc (below_alloc (Below.refl _ w) _) _)) (hD1.later (below_alloc (below_alloc (Below.refl _ w) _) _)) (hD2.later (below_alloc (below_alloc (Below.refl _ w) _) _))).mono ?_
  rintro e w1 ⟨rfl, hC1⟩
  have hs1 : w.heap.size + 1 + 1 ≤ w1.heap.size := by have := hC1.size; (try simp only [alloc_size, setRow_size] at this); omega
  replace h2 : w1.heap[w.heap.size]? = some (.cells (arrC N) 22 (0, 0)) := (heap_call hC1 (heap_old _ (heap_new_at _ _ _ rfl)))
  replace h3 : w1.heap[w.heap.size + 1]? = some (.cells (arrC M) 22 (0, 0)) := (heap_call hC1 (heap_new_at _ _ _ (by simp only [alloc_size, setRow_size])))
  have hBw1 : Hid (Below w.heap.size w w1) := Lib.hid (below_call (below_alloc (below_alloc (Below.refl _ w) _) _) hC1)
  clear hC1
  go_upto_region 2 with (first
    | ((with_reducible refine at_store 5 ?_); refine wpList_store_row rfl 22 _ _ rfl (w1.heap.size) (arrC E1) rfl rfl 22 (zL) (heap_new_at _ _ _ rfl) (info32_of (arrC E1) (arrC_size _)) (zL_size.trans (arrC_size _).symm) (arrC_one _) ?_))
  try simp only [Act.put]
  refine wp_named ?_
  intro w2 ew2
  have hs2 : w1.heap.size + 1 ≤ w2.heap.size := by rw [ew2]; (try simp only [alloc_size, setRow_size]); omega
  replace h2 : w2.heap[w.heap.size]? = some (.cells (arrC N) 22 (0, 0)) := by rw [ew2]; exact (heap_row _ (by omega) (heap_old _ h2))
  replace h3 : w2.heap[w.heap.size + 1]? = some (.cells (arrC M) 22 (0, 0)) := by rw [ew2]; exact (heap_row _ (by omega) (heap_old _ h3))
  replace h5 : w2.heap[w1.heap.size]? = some (.cells (arrC E1) 22 (0, 0)) := by rw [ew2]; exact (setRow_heap _ _ _ _ _ _ (heap_new_at _ _ _ rfl))
  have hBw2 : Hid (Below w.heap.size w w2) := Lib.hid (by rw [ew2]; exact (below_setRow (below_alloc hBw1.out _) (by omega) _))
  clear ew2
  go_wp2_with (first
    | ((with_reducible refine at_dst 16 ?_); refine wpList_load_row rfl 22 _ rfl (w.heap.size) rfl 22 (arrC N) (0, 0) _ h2 under32 rfl (info32_of (arrC N) (arrC_size _)) ?_)
    | ((with_reducible refine at_dst 17 ?_); refine wpList_load_row rfl 22 _ rfl (w.heap.size + 1) rfl 22 (arrC M) (0, 0) _ h3 under32 rfl (info32_of (arrC M) (arrC_size _)) ?_))
  refine (sSub_sse P Q E1 HE1 N M  lN hN lM hM _).mono ?_
  rintro e w3 ⟨rfl, hC3⟩
  have hs3 : w2.heap.size ≤ w3.heap.size := by have := hC3.size; (try simp only [alloc_size, setRow_size] at this); omega
  replace h2 : w3.heap[w.heap.size]? = some (.cells (arrC N) 22 (0, 0)) := (heap_call hC3 h2)
  replace h3 : w3.heap[w.heap.size + 1]? = some (.cells (arrC M) 22 (0, 0)) := (heap_call hC3 h3)
  replace h5 : w3.heap[w1.heap.size]? = some (.cells (arrC E1) 22 (0, 0)) := (heap_call hC3 h5)
  have hBw3 : Hid (Below w.heap.size w w3) := Lib.hid (below_call hBw2.out hC3)
  clear hC3
  go_upto_region 3 with (first
    | ((with_reducible refine at_store 7 ?_); refine wpList_store_row rfl 22 _ _ rfl (w3.heap.size) (arrC E1) rfl rfl 22 (zL) (heap_new_at _ _ _ rfl) (info32_of (arrC E1) (arrC_size _)) (zL_size.trans (arrC_size _).symm) (arrC_one _) ?_))
  try simp only [Act.put]
  refine wp_named ?_
  intro w4 ew4
  have hs4 : w3.heap.size + 1 ≤ w4.heap.size := by rw [ew4]; (try simp only [alloc_size, setRow_size]); omega
  replace h2 : w4.heap[w.heap.size]? = some (.cells (arrC N) 22 (0, 0)) := by rw [ew4]; exact (heap_row _ (by omega) (heap_old _ h2))
  replace h3 : w4.heap[w.heap.size + 1]? = some (.cells (arrC M) 22 (0, 0)) := by rw [ew4]; exact (heap_row _ (by omega) (heap_old _ h3))
  replace h5 : w4.heap[w1.heap.size]? = some (.cells (arrC E1) 22 (0, 0)) := by rw [ew4]; exact (heap_row _ (by omega) (heap_old _ h5))
  replace h7 : w4.heap[w3.heap.size]? = some (.cells (arrC E1) 22 (0, 0)) := by rw [ew4]; exact (setRow_heap _ _ _ _ _ _ (heap_new_at _ _ _ rfl))
  have hBw4 : Hid (Below w.heap.size w w4) := Lib.hid (by rw [ew4]; exact (below_setRow (below_alloc hBw3.out _) (by omega) _))
  clear ew4
  go_wp2_with (first
    | ((with_reducible refine at_dst 21 ?_); refine wpList_load_row rfl 22 _ rfl (w1.heap.size) rfl 22 (arrC E1) (0, 0) _ h5 under32 rfl (info32_of (arrC E1) (arrC_size _)) ?_)
    | ((with_reducible refine at_dst 22 ?_); refine wpList_load_row rfl 22 _ rfl (w3.heap.size) rfl 22 (arrC E1) (0, 0) _ h7 under32 rfl (info32_of (arrC E1) (arrC_size _)) ?_))
  go_ret
  exact ⟨rfl, hBw4.out⟩
set_option maxHeartbeats 4000000 in
theorem PtSub_sn (N : Nat) (M : Nat) (P : CP) (lN : N < 256 ^ 32) (hN : Hid (decP N = some P)) (lM : M < 256 ^ 32) (hM : Hid (decP M = none)) (B : Nat) (w : World) (hD0 : Var 1 z5 B w) (hD1 : Var 0 i5 B w) (hD2 : Var 2 o5 B w) :
    Calls Tryd.prog 7 #[.agg (arrC N), .agg (arrC M)] w fun e w' => e = .returned (.bool true) ∧ Below w.heap.size w w' := by
  have hBl := hD0.1
  have e1 : ∀ u : World, (Op.equalIn 10000 22 (.agg zL) (.agg zL)).run Tryd.prog u = .ok true u := fun u => by rw [zL_arrC, run_eq_arr 0 0 (by omega) (by omega) u]; simp
  go_enter Tryd.func7, Tryd.ntmps7
  go_wp2_with (first
    | ((with_reducible refine at_dst 10 ?_); refine wpList_load_row rfl 22 _ rfl (w.heap.size) rfl 22 (arrC N) (0, 0) _ (heap_old _ (heap_new_at _ _ _ rfl)) under32 rfl (info32_of (arrC N) (arrC_size _)) ?_)
    | ((with_reducible refine at_dst 11 ?_); refine wpList_load_row rfl 22 _ rfl (w.heap.size + 1) rfl 22 (arrC M) (0, 0) _ (heap_new_at _ _ _ (by simp only [alloc_size, setRow_size])) under32 rfl (info32_of (arrC M) (arrC_size _)) ?_))
  refine (iSub_sn N M P  lN hN lM hM B _ (hD0.later (below_alloc (below_alloc (Below.refl _ w) _) _)) (hD1.later (below_alloc (below_alloc (Below.refl _ w) _) _)) (hD2.later (below_alloc (below_alloc (Below.refl _ w) _) _))).mono ?_
  rintro e w1 ⟨rfl, hC1⟩
  have hs1 : w.heap.size + 1 + 1 ≤ w1.heap.size := by have := hC1.size; (try simp only [alloc_size, setRow_size] at this); omega
  replace h2 : w1.heap[w.heap.size]? = some (.cells (arrC N) 22 (0, 0)) := (heap_call hC1 (heap_old _ (heap_new_at _ _ _ rfl)))
  replace h3 : w1.heap[w.heap.size + 1]? = some (.cells (arrC M) 22 (0, 0)) := (heap_call hC1 (heap_new_at _ _ _ (by simp only [alloc_size, setRow_size])))
  have hBw1 : Hid (Below w.heap.size w w1) := Lib.hid (below_call (below_alloc (below_alloc (Below.refl _ w) _) _) hC1)
  clear hC1
  go_upto_region 2 with (first
    | ((with_reducible refine at_store 5 ?_); refine wpList_store_row rfl 22 _ _ rfl (w1.heap.size) (zL) rfl rfl 22 (zL) (heap_new_at _ _ _ rfl) (info32_of (zL) zL_size) (zL_size.trans zL_size.symm) zL_one ?_))
  try simp only [Act.put]
  refine wp_named ?_
  intro w2 ew2
  have hs2 : w1.heap.size + 1 ≤ w2.heap.size := by rw [ew2]; (try simp only [alloc_size, setRow_size]); omega
  replace h2 : w2.heap[w.heap.size]? = some (.cells (arrC N) 22 (0, 0)) := by rw [ew2]; exact (heap_row _ (by omega) (heap_old _ h2))
  replace h3 : w2.heap[w.heap.size + 1]? = some (.cells (arrC M) 22 (0, 0)) := by rw [ew2]; exact (heap_row _ (by omega) (heap_old _ h3))
  replace h5 : w2.heap[w1.heap.size]? = some (.cells (zL) 22 (0, 0)) := by rw [ew2]; exact (setRow_heap _ _ _ _ _ _ (heap_new_at _ _ _ rfl))
  have hBw2 : Hid (Below w.heap.size w w2) := Lib.hid (by rw [ew2]; exact (below_setRow (below_alloc hBw1.out _) (by omega) _))
  clear ew2
  go_wp2_with (first
    | ((with_reducible refine at_dst 16 ?_); refine wpList_load_row rfl 22 _ rfl (w.heap.size) rfl 22 (arrC N) (0, 0) _ h2 under32 rfl (info32_of (arrC N) (arrC_size _)) ?_)
    | ((with_reducible refine at_dst 17 ?_); refine wpList_load_row rfl 22 _ rfl (w.heap.size + 1) rfl 22 (arrC M) (0, 0) _ h3 under32 rfl (info32_of (arrC M) (arrC_size _)) ?_))
  refine (sSub_sn N M P  lN hN lM hM _).mono ?_
  rintro e w3 ⟨rfl, hC3⟩
  have hs3 : w2.heap.size ≤ w3.heap.size := by have := hC3.size; (try simp only [alloc_size, setRow_size] at this); omega
  replace h2 : w3.heap[w.heap.size]? = some (.cells (arrC N) 22 (0, 0)) := (heap_call hC3 h2)
  replace h3 : w3.heap[w.heap.size + 1]? = some (.cells (arrC M) 22 (0, 0)) := (heap_call hC3 h3)
  replace h5 : w3.heap[w1.heap.size]? = some (.cells (zL) 22 (0, 0)) := (heap_call hC3 h5)
  have hBw3 : Hid (Below w.heap.size w w3) := Lib.hid (below_call hBw2.out hC3)
  clear hC3
  go_upto_region 3 with (first
    | ((with_reducible refine at_store 7 ?_); refine wpList_store_row rfl 22 _ _ rfl (w3.heap.size) (zL) rfl rfl 22 (zL) (heap_new_at _ _ _ rfl) (info32_of (zL) zL_size) (zL_size.trans zL_size.symm) zL_one ?_))
  try simp only [Act.put]
  refine wp_named ?_
  intro w4 ew4
  have hs4 : w3.heap.size + 1 ≤ w4.heap.size := by rw [ew4]; (try simp only [alloc_size, setRow_size]); omega
  replace h2 : w4.heap[w.heap.size]? = some (.cells (arrC N) 22 (0, 0)) := by rw [ew4]; exact (heap_row _ (by omega) (heap_old _ h2))
  replace h3 : w4.heap[w.heap.size + 1]? = some (.cells (arrC M) 22 (0, 0)) := by rw [ew4]; exact (heap_row _ (by omega) (heap_old _ h3))
  replace h5 : w4.heap[w1.heap.size]? = some (.cells (zL) 22 (0, 0)) := by rw [ew4]; exact (heap_row _ (by omega) (heap_old _ h5))
  replace h7 : w4.heap[w3.heap.size]? = some (.cells (zL) 22 (0, 0)) := by rw [ew4]; exact (setRow_heap _ _ _ _ _ _ (heap_new_at _ _ _ rfl))
  have hBw4 : Hid (Below w.heap.size w w4) := Lib.hid (by rw [ew4]; exact (below_setRow (below_alloc hBw3.out _) (by omega) _))
  clear ew4
  go_wp2_with (first
    | ((with_reducible refine at_dst 21 ?_); refine wpList_load_row rfl 22 _ rfl (w1.heap.size) rfl 22 (zL) (0, 0) _ h5 under32 rfl (info32_of (zL) zL_size) ?_)
    | ((with_reducible refine at_dst 22 ?_); refine wpList_load_row rfl 22 _ rfl (w3.heap.size) rfl 22 (zL) (0, 0) _ h7 under32 rfl (info32_of (zL) zL_size) ?_))
  go_ret
  exact ⟨rfl, hBw4.out⟩
set_option maxHeartbeats 4000000 in
theorem PtSub_ns (N : Nat) (M : Nat) (Q : CP) (lN : N < 256 ^ 32) (hN : Hid (decP N = none)) (lM : M < 256 ^ 32) (hM : Hid (decP M = some Q)) (B : Nat) (w : World) (hD0 : Var 1 z5 B w) (hD1 : Var 0 i5 B w) (hD2 : Var 2 o5 B w) :
    Calls Tryd.prog 7 #[.agg (arrC N), .agg (arrC M)] w fun e w' => e = .returned (.bool true) ∧ Below w.heap.size w w' := by
  have hBl := hD0.1
  have e1 : ∀ u : World, (Op.equalIn 10000 22 (.agg zL) (.agg zL)).run Tryd.prog u = .ok true u := fun u => by rw [zL_arrC, run_eq_arr 0 0 (by omega) (by omega) u]; simp
  go_enter Tryd.func7, Tryd.ntmps7
  go_wp2_with (first
    | ((with_reducible refine at_dst 10 ?_); refine wpList_load_row rfl 22 _ rfl (w.heap.size) rfl 22 (arrC N) (0, 0) _ (heap_old _ (heap_new_at _ _ _ rfl)) under32 rfl (info32_of (arrC N) (arrC_size _)) ?_)
    | ((with_reducible refine at_dst 11 ?_); refine wpList_load_row rfl 22 _ rfl (w.heap.size + 1) rfl 22 (arrC M) (0, 0) _ (heap_new_at _ _ _ (by simp only [alloc_size, setRow_size])) under32 rfl (info32_of (arrC M) (arrC_size _)) ?_))
  refine (iSub_ns N M Q  lN hN lM hM B _ (hD0.later (below_alloc (below_alloc (Below.refl _ w) _) _)) (hD1.later (below_alloc (below_alloc (Below.refl _ w) _) _)) (hD2.later (below_alloc (below_alloc (Below.refl _ w) _) _))).mono ?_
  rintro e w1 ⟨rfl, hC1⟩
  have hs1 : w.heap.size + 1 + 1 ≤ w1.heap.size := by have := hC1.size; (try simp only [alloc_size, setRow_size] at this); omega
  replace h2 : w1.heap[w.heap.size]? = some (.cells (arrC N) 22 (0, 0)) := (heap_call hC1 (heap_old _ (heap_new_at _ _ _ rfl)))
  replace h3 : w1.heap[w.heap.size + 1]? = some (.cells (arrC M) 22 (0, 0)) := (heap_call hC1 (heap_new_at _ _ _ (by simp only [alloc_size, setRow_size])))
  have hBw1 : Hid (Below w.heap.size w w1) := Lib.hid (below_call (below_alloc (below_alloc (Below.refl _ w) _) _) hC1)
  clear hC1
  go_upto_region 2 with (first
    | ((with_reducible refine at_store 5 ?_); refine wpList_store_row rfl 22 _ _ rfl (w1.heap.size) (zL) rfl rfl 22 (zL) (heap_new_at _ _ _ rfl) (info32_of (zL) zL_size) (zL_size.trans zL_size.symm) zL_one ?_))
  try simp only [Act.put]
  refine wp_named ?_
  intro w2 ew2
  have hs2 : w1.heap.size + 1 ≤ w2.heap.size := by rw [ew2]; (try simp only [alloc_size, setRow_size]); omega
  replace h2 : w2.heap[w.heap.size]? = some (.cells (arrC N) 22 (0, 0)) := by rw [ew2]; exact (heap_row _ (by omega) (heap_old _ h2))
  replace h3 : w2.heap[w.heap.size + 1]? = some (.cells (arrC M) 22 (0, 0)) := by rw [ew2]; exact (heap_row _ (by omega) (heap_old _ h3))
  replace h5 : w2.heap[w1.heap.size]? = some (.cells (zL) 22 (0, 0)) := by rw [ew2]; exact (setRow_heap _ _ _ _ _ _ (heap_new_at _ _ _ rfl))
  have hBw2 : Hid (Below w.heap.size w w2) := Lib.hid (by rw [ew2]; exact (below_setRow (below_alloc hBw1.out _) (by omega) _))
  clear ew2
  go_wp2_with (first
    | ((with_reducible refine at_dst 16 ?_); refine wpList_load_row rfl 22 _ rfl (w.heap.size) rfl 22 (arrC N) (0, 0) _ h2 under32 rfl (info32_of (arrC N) (arrC_size _)) ?_)
    | ((with_reducible refine at_dst 17 ?_); refine wpList_load_row rfl 22 _ rfl (w.heap.size + 1) rfl 22 (arrC M) (0, 0) _ h3 under32 rfl (info32_of (arrC M) (arrC_size _)) ?_))
  refine (sSub_ns N M Q  lN hN lM hM _).mono ?_
  rintro e w3 ⟨rfl, hC3⟩
  have hs3 : w2.heap.size ≤ w3.heap.size := by have := hC3.size; (try simp only [alloc_size, setRow_size] at this); omega
  replace h2 : w3.heap[w.heap.size]? = some (.cells (arrC N) 22 (0, 0)) := (heap_call hC3 h2)
  replace h3 : w3.heap[w.heap.size + 1]? = some (.cells (arrC M) 22 (0, 0)) := (heap_call hC3 h3)
  replace h5 : w3.heap[w1.heap.size]? = some (.cells (zL) 22 (0, 0)) := (heap_call hC3 h5)
  have hBw3 : Hid (Below w.heap.size w w3) := Lib.hid (below_call hBw2.out hC3)
  clear hC3
  go_upto_region 3 with (first
    | ((with_reducible refine at_store 7 ?_); refine wpList_store_row rfl 22 _ _ rfl (w3.heap.size) (zL) rfl rfl 22 (zL) (heap_new_at _ _ _ rfl) (info32_of (zL) zL_size) (zL_size.trans zL_size.symm) zL_one ?_))
  try simp only [Act.put]
  refine wp_named ?_
  intro w4 ew4
  have hs4 : w3.heap.size + 1 ≤ w4.heap.size := by rw [ew4]; (try simp only [alloc_size, setRow_size]); omega
  replace h2 : w4.heap[w.heap.size]? = some (.cells (arrC N) 22 (0, 0)) := by rw [ew4]; exact (heap_row _ (by omega) (heap_old _ h2))
  replace h3 : w4.heap[w.heap.size + 1]? = some (.cells (arrC M) 22 (0, 0)) := by rw [ew4]; exact (heap_row _ (by omega) (heap_old _ h3))
  replace h5 : w4.heap[w1.heap.size]? = some (.cells (zL) 22 (0, 0)) := by rw [ew4]; exact (heap_row _ (by omega) (heap_old _ h5))
  replace h7 : w4.heap[w3.heap.size]? = some (.cells (zL) 22 (0, 0)) := by rw [ew4]; exact (setRow_heap _ _ _ _ _ _ (heap_new_at _ _ _ rfl))
  have hBw4 : Hid (Below w.heap.size w w4) := Lib.hid (by rw [ew4]; exact (below_setRow (below_alloc hBw3.out _) (by omega) _))
  clear ew4
  go_wp2_with (first
    | ((with_reducible refine at_dst 21 ?_); refine wpList_load_row rfl 22 _ rfl (w1.heap.size) rfl 22 (zL) (0, 0) _ h5 under32 rfl (info32_of (zL) zL_size) ?_)
    | ((with_reducible refine at_dst 22 ?_); refine wpList_load_row rfl 22 _ rfl (w3.heap.size) rfl 22 (zL) (0, 0) _ h7 under32 rfl (info32_of (zL) zL_size) ?_))
  go_ret
  exact ⟨rfl, hBw4.out⟩
set_option maxHeartbeats 4000000 in
theorem PtSub_nn (N : Nat) (M : Nat) (lN : N < 256 ^ 32) (hN : Hid (decP N = none)) (lM : M < 256 ^ 32) (hM : Hid (decP M = none)) (B : Nat) (w : World) (hD0 : Var 1 z5 B w) (hD1 : Var 0 i5 B w) (hD2 : Var 2 o5 B w) :
    Calls Tryd.prog 7 #[.agg (arrC N), .agg (arrC M)] w fun e w' => e = .returned (.bool true) ∧ Below w.heap.size w w' := by
  have hBl := hD0.1
  have e1 : ∀ u : World, (Op.equalIn 10000 22 (.agg zL) (.agg zL)).run Tryd.prog u = .ok true u := fun u => by rw [zL_arrC, run_eq_arr 0 0 (by omega) (by omega) u]; simp
  go_enter Tryd.func7, Tryd.ntmps7
  go_wp2_with (first
    | ((with_reducible refine at_dst 10 ?_); refine wpList_load_row rfl 22 _ rfl (w.heap.size) rfl 22 (arrC N) (0, 0) _ (heap_old _ (heap_new_at _ _ _ rfl)) under32 rfl (info32_of (arrC N) (arrC_size _)) ?_)
    | ((with_reducible refine at_dst 11 ?_); refine wpList_load_row rfl 22 _ rfl (w.heap.size + 1) rfl 22 (arrC M) (0, 0) _ (heap_new_at _ _ _ (by simp only [alloc_size, setRow_size])) under32 rfl (info32_of (arrC M) (arrC_size _)) ?_))
  refine (iSub_nn N M   lN hN lM hM B _ (hD0.later (below_alloc (below_alloc (Below.refl _ w) _) _)) (hD1.later (below_alloc (below_alloc (Below.refl _ w) _) _)) (hD2.later (below_alloc (below_alloc (Below.refl _ w) _) _))).mono ?_
  rintro e w1 ⟨rfl, hC1⟩
  have hs1 : w.heap.size + 1 + 1 ≤ w1.heap.size := by have := hC1.size; (try simp only [alloc_size, setRow_size] at this); omega
  replace h2 : w1.heap[w.heap.size]? = some (.cells (arrC N) 22 (0, 0)) := (heap_call hC1 (heap_old _ (heap_new_at _ _ _ rfl)))
  replace h3 : w1.heap[w.heap.size + 1]? = some (.cells (arrC M) 22 (0, 0)) := (heap_call hC1 (heap_new_at _ _ _ (by simp only [alloc_size, setRow_size])))
  have hBw1 : Hid (Below w.heap.size w w1) := Lib.hid (below_call (below_alloc (below_alloc (Below.refl _ w) _) _) hC1)
  clear hC1
  go_upto_region 2 with (first
    | ((with_reducible refine at_store 5 ?_); refine wpList_store_row rfl 22 _ _ rfl (w1.heap.size) (zL) rfl rfl 22 (zL) (heap_new_at _ _ _ rfl) (info32_of (zL) zL_size) (zL_size.trans zL_size.symm) zL_one ?_))
  try simp only [Act.put]
  refine wp_named ?_
  intro w2 ew2
  have hs2 : w1.heap.size + 1 ≤ w2.heap.size := by rw [ew2]; (try simp only [alloc_size, setRow_size]); omega
  replace h2 : w2.heap[w.heap.size]? = some (.cells (arrC N) 22 (0, 0)) := by rw [ew2]; exact (heap_row _ (by omega) (heap_old _ h2))
  replace h3 : w2.heap[w.heap.size + 1]? = some (.cells (arrC M) 22 (0, 0)) := by rw [ew2]; exact (heap_row _ (by omega) (heap_old _ h3))
  replace h5 : w2.heap[w1.heap.size]? = some (.cells (zL) 22 (0, 0)) := by rw [ew2]; exact (setRow_heap _ _ _ _ _ _ (heap_new_at _ _ _ rfl))
  have hBw2 : Hid (Below w.heap.size w w2) := Lib.hid (by rw [ew2]; exact (below_setRow (below_alloc hBw1.out _) (by omega) _))
  clear ew2
  go_wp2_with (first
    | ((with_reducible refine at_dst 16 ?_); refine wpList_load_row rfl 22 _ rfl (w.heap.size) rfl 22 (arrC N) (0, 0) _ h2 under32 rfl (info32_of (arrC N) (arrC_size _)) ?_)
    | ((with_reducible refine at_dst 17 ?_); refine wpList_load_row rfl 22 _ rfl (w.heap.size + 1) rfl 22 (arrC M) (0, 0) _ h3 under32 rfl (info32_of (arrC M) (arrC_size _)) ?_))
  refine (sSub_nn N M   lN hN lM hM _).mono ?_
  rintro e w3 ⟨rfl, hC3⟩
  have hs3 : w2.heap.size ≤ w3.heap.size := by have := hC3.size; (try simp only [alloc_size, setRow_size] at this); omega
  replace h2 : w3.heap[w.heap.size]? = some (.cells (arrC N) 22 (0, 0)) := (heap_call hC3 h2)
  replace h3 : w3.heap[w.heap.size + 1]? = some (.cells (arrC M) 22 (0, 0)) := (heap_call hC3 h3)
  replace h5 : w3.heap[w1.heap.size]? = some (.cells (zL) 22 (0, 0)) := (heap_call hC3 h5)
  have hBw3 : Hid (Below w.heap.size w w3) := Lib.hid (below_call hBw2.out hC3)
  clear hC3
  go_upto_region 3 with (first
    | ((with_reducible refine at_store 7 ?_); refine wpList_store_row rfl 22 _ _ rfl (w3.heap.size) (zL) rfl rfl 22 (zL) (heap_new_at _ _ _ rfl) (info32_of (zL) zL_size) (zL_size.trans zL_size.symm) zL_one ?_))
  try simp only [Act.put]
  refine wp_named ?_
  intro w4 ew4
  have hs4 : w3.heap.size + 1 ≤ w4.heap.size := by rw [ew4]; (try simp only [alloc_size, setRow_size]); omega
  replace h2 : w4.heap[w.heap.size]? = some (.cells (arrC N) 22 (0, 0)) := by rw [ew4]; exact (heap_row _ (by omega) (heap_old _ h2))
  replace h3 : w4.heap[w.heap.size + 1]? = some (.cells (arrC M) 22 (0, 0)) := by rw [ew4]; exact (heap_row _ (by omega) (heap_old _ h3))
  replace h5 : w4.heap[w1.heap.size]? = some (.cells (zL) 22 (0, 0)) := by rw [ew4]; exact (heap_row _ (by omega) (heap_old _ h5))
  replace h7 : w4.heap[w3.heap.size]? = some (.cells (zL) 22 (0, 0)) := by rw [ew4]; exact (setRow_heap _ _ _ _ _ _ (heap_new_at _ _ _ rfl))
  have hBw4 : Hid (Below w.heap.size w w4) := Lib.hid (by rw [ew4]; exact (below_setRow (below_alloc hBw3.out _) (by omega) _))
  clear ew4
  go_wp2_with (first
    | ((with_reducible refine at_dst 21 ?_); refine wpList_load_row rfl 22 _ rfl (w1.heap.size) rfl 22 (zL) (0, 0) _ h5 under32 rfl (info32_of (zL) zL_size) ?_)
    | ((with_reducible refine at_dst 22 ?_); refine wpList_load_row rfl 22 _ rfl (w3.heap.size) rfl 22 (zL) (0, 0) _ h7 under32 rfl (info32_of (zL) zL_size) ?_))
  go_ret
  exact ⟨rfl, hBw4.out⟩
theorem PtSub_walk (N : Nat) (lN : N < 256 ^ 32) (M : Nat) (lM : M < 256 ^ 32) (B : Nat) (w : World) (hD0 : Var 1 z5 B w) (hD1 : Var 0 i5 B w) (hD2 : Var 2 o5 B w) : Calls Tryd.prog 7 #[.agg (arrC N), .agg (arrC M)] w fun e w' => e = .returned (.bool true) ∧ Below w.heap.size w w' := by
  cases hP : decP N with
  | none =>
    cases hQ : decP M with
    | none => exact PtSub_nn N M lN (Lib.hid hP) lM (Lib.hid hQ) B w hD0 hD1 hD2
    | some Q => exact PtSub_ns N M Q lN (Lib.hid hP) lM (Lib.hid hQ) B w hD0 hD1 hD2
  | some P =>
    cases hQ : decP M with
    | none => exact PtSub_sn N M P lN (Lib.hid hP) lM (Lib.hid hQ) B w hD0 hD1 hD2
    | some Q => exact PtSub_ss N M P Q lN (Lib.hid hP) lM (Lib.hid hQ) B w hD0 hD1 hD2
end

section
open Go.ChangeShapes Go.WideShapes Go.ChangeAt Go.RowKit
set_option maxRecDepth 100000 in
theorem fnExactPointSubtract_laid {W : World} (h : laidMetH Tryd.prog Rows.fnExactPointSubtractRow.laid W) : Var 1 z5 W.heap.size W ∧ Var 2 o5 W.heap.size W ∧ Var 0 i5 W.heap.size W := by
  rw [MakeChecks.laidMetH_plain _ _ _ (by kernel_rfl)] at h
  obtain ⟨ps, ⟨g0, t0, cs0, f0, q0, r0, hg0, ht0, hv0, hd0, ⟨g1, t1, cs1, f1, q1, r1, hg1, ht1, hv1, hd1, ⟨g2, t2, cs2, f2, q2, r2, hg2, ht2, hv2, hd2, hlast, hp2⟩, hp1⟩, hp0⟩, _, hfr⟩ := h
  obtain rfl := Option.some.inj ((show Tryd.prog.globalNamed "loop.example/pub-g03328/pub/field.feZero" = some 1 by kernel_rfl).symm.trans hg0)
  obtain rfl := Option.some.inj ((show (Tryd.prog.globals[1]?).map (·.type) = some 68 by kernel_rfl).symm.trans ht0)
  obtain rfl := Option.some.inj ((show Tryd.prog.globalNamed "loop.example/pub-g03328/pub/field.feOne" = some 2 by kernel_rfl).symm.trans hg1)
  obtain rfl := Option.some.inj ((show (Tryd.prog.globals[2]?).map (·.type) = some 68 by kernel_rfl).symm.trans ht1)
  obtain rfl := Option.some.inj ((show Tryd.prog.globalNamed "loop.example/pub-g03328/pub/field.sqrtM1" = some 0 by kernel_rfl).symm.trans hg2)
  obtain rfl := Option.some.inj ((show (Tryd.prog.globals[0]?).map (·.type) = some 68 by kernel_rfl).symm.trans ht2)
  have hin0 : ∀ x, x ∈ q0 → x ∈ ps := by
    intro x hx
    rw [hp0]
    simp [hx]
  have hD0 := laid_el 0 0 0 0 0 hg0 hv0 hd0 (fun b off hm => (hfr b off (hin0 _ hm)).1)
  have hin1 : ∀ x, x ∈ q1 → x ∈ ps := by
    intro x hx
    rw [hp0, hp1]
    simp [hx]
  have hD1 := laid_el 1 0 0 0 0 hg1 hv1 hd1 (fun b off hm => (hfr b off (hin1 _ hm)).1)
  have hin2 : ∀ x, x ∈ q2 → x ∈ ps := by
    intro x hx
    rw [hp0, hp1, hp2]
    simp [hx]
  have hD2 := laid_el 1718705420411056 234908883556509 2233514472574048 2117202627021982 765476049583133 hg2 hv2 hd2 (fun b off hm => (hfr b off (hin2 _ hm)).1)
  exact ⟨hD0, hD1, hD2⟩
theorem fnExactPointSubtract_met (os : Os) (args : Array Value) : laidMetH Tryd.prog Rows.fnExactPointSubtractRow.laid ((World.doorLaid Tryd.prog 400 os).forCall (fun _ _ => 0) ⟨#[], args, []⟩).memory :=
  laidMetH_of_parts3 (fuel := 8) (laidMet_of_run' 8 (by kernel_rfl) (by kernel_rfl)) (by kernel_rfl) (by kernel_rfl)
set_option maxRecDepth 100000 in
theorem fnExactPointSubtract_lifted (os : Os) (started : os.Started) (H : Type) (enc : TypeId × Value → H) :
    ReturnsInHanded {} Tryd.checked os 7 .any (fun w args => (Rows.fnExactPointSubtractSpec.pre enc Tryd.prog Tryd.f7 [] false w args ∧ laidMetH Tryd.prog Rows.fnExactPointSubtractRow.laid w) ∧ sizedMet enc Tryd.prog Tryd.f7 (OpenSpec.ofChange Rows.fnExactPointSubtractSpec) false w args)
      (Rows.fnExactPointSubtractSpec.post enc Tryd.prog Tryd.f7 false true false false) := by
  refine returnsInHanded_of_change_and (C := Tryd.checked) (X := fun w _ => laidMetH Tryd.prog Rows.fnExactPointSubtractRow.laid w) (fun _ _ _ hh h => h.of_heap hh) Tryd.own started (by kernel_rfl) Tryd.func7
    (ChangeSpec.witness_shaped (enc := enc) (C := Tryd.checked) (os := os) (X := fun w _ => laidMetH Tryd.prog Rows.fnExactPointSubtractRow.laid w) false (World.doorLaid Tryd.prog 400 os) #[.agg #[.int .u8 0, .int .u8 0, .int .u8 0, .int .u8 0, .int .u8 0, .int .u8 0, .int .u8 0, .int .u8 0, .int .u8 0, .int .u8 0, .int .u8 0, .int .u8 0, .int .u8 0, .int .u8 0, .int .u8 0, .int .u8 0, .int .u8 0, .int .u8 0, .int .u8 0, .int .u8 0, .int .u8 0, .int .u8 0, .int .u8 0, .int .u8 0, .int .u8 0, .int .u8 0, .int .u8 0, .int .u8 0, .int .u8 0, .int .u8 0, .int .u8 0, .int .u8 0], .agg #[.int .u8 0, .int .u8 0, .int .u8 0, .int .u8 0, .int .u8 0, .int .u8 0, .int .u8 0, .int .u8 0, .int .u8 0, .int .u8 0, .int .u8 0, .int .u8 0, .int .u8 0, .int .u8 0, .int .u8 0, .int .u8 0, .int .u8 0, .int .u8 0, .int .u8 0, .int .u8 0, .int .u8 0, .int .u8 0, .int .u8 0, .int .u8 0, .int .u8 0, .int .u8 0, .int .u8 0, .int .u8 0, .int .u8 0, .int .u8 0, .int .u8 0, .int .u8 0]] 8 rfl (World.shaped_of_RefB (by kernel_rfl) (by kernel_rfl)) (by kernel_rfl) (by kernel_rfl) (by kernel_rfl) (fnExactPointSubtract_met os _)) ?_
  intro W base args ds gs before hval0 hW _ _ hL _
  have hval : ∀ (j : Nat) t v, Tryd.f7.params[j]? = some t → args[j]? = some v → Value.okWide Tryd.prog W .any base t v := hval0
  have hW' := hW
  obtain ⟨p, q, hA0, hV, rfl, hfz, hnd⟩ := hW
  have hA : DataW.TrodAll enc Tryd.prog W 0 (fun _ => true) true Tryd.f7.params.toList args.toList ds p := hA0
  rw [Tryd.params7] at hA hval
  obtain ⟨v0, v1, d0, d1, p0, p1, rfl, rfl, rfl, h0, h1⟩ := trodAll_two hA
  obtain ⟨X, bX, rfl, rfl, sX⟩ := open32 (hval 0 22 v0 rfl rfl) h0
  obtain ⟨Y, bY, rfl, rfl, sY⟩ := open32 (hval 1 22 v1 rfl rfl) h1
  clear hA0 hval0 hA
  have hVV : DataW.TrodVars enc Tryd.prog W (fun _ => true) ["loop.example/pub-g03328/pub/field.feOne", "loop.example/pub-g03328/pub/field.sqrtM1", "loop.example/pub-g03328/pub/field.feZero"] gs q := hV
  have hVs := fun W' (hB : Below W.heap.size W W') => vars_stay hB (ns := ["loop.example/pub-g03328/pub/field.feOne", "loop.example/pub-g03328/pub/field.sqrtM1", "loop.example/pub-g03328/pub/field.feZero"]) (gs := gs) (q := q) (by
    intro n hn g t hg ht
    simp only [List.mem_cons, List.not_mem_nil, or_false] at hn
    rcases hn with rfl | rfl | rfl
    · obtain rfl := Option.some.inj ((show Tryd.prog.globalNamed "loop.example/pub-g03328/pub/field.feOne" = some 2 by kernel_rfl).symm.trans hg)
      obtain rfl := Option.some.inj ((show (Tryd.prog.globals[2]?).map (·.type) = some 68 by kernel_rfl).symm.trans ht)
      exact ⟨by kernel_rfl, of_decide_eq_true (by kernel_rfl)⟩
    · obtain rfl := Option.some.inj ((show Tryd.prog.globalNamed "loop.example/pub-g03328/pub/field.sqrtM1" = some 0 by kernel_rfl).symm.trans hg)
      obtain rfl := Option.some.inj ((show (Tryd.prog.globals[0]?).map (·.type) = some 68 by kernel_rfl).symm.trans ht)
      exact ⟨by kernel_rfl, of_decide_eq_true (by kernel_rfl)⟩
    · obtain rfl := Option.some.inj ((show Tryd.prog.globalNamed "loop.example/pub-g03328/pub/field.feZero" = some 1 by kernel_rfl).symm.trans hg)
      obtain rfl := Option.some.inj ((show (Tryd.prog.globals[1]?).map (·.type) = some 68 by kernel_rfl).symm.trans ht)
      exact ⟨by kernel_rfl, of_decide_eq_true (by kernel_rfl)⟩) hVV
  obtain ⟨y0, y1, y2, hgs⟩ := list_len3 (trodVars_len hVV)
  subst hgs
  obtain ⟨hD0, hD1, hD2⟩ := fnExactPointSubtract_laid hL
  refine (PtSub_walk X bX Y bY W.heap.size W hD0 hD2 hD1).mono fun e W' ⟨he, hB⟩ => ?_
  subst he
  exact ⟨_, rfl, _, _, _, [], [], q, hW', trodAll_mk1 (shut_bool (by kernel_rfl) true), trodAll_mk2 (sX W' _) (sY W' _), hVs W' hB, hB.frame _, fun h => by cases h⟩
theorem fnExactPointSubtract_holds : Rows.FnExactPointSubtractSaid :=
  OpenClaim.holds_of_wide 7 Tryd.f7 rfl rfl rfl rfl rfl rfl rfl ⟨rfl, rfl, rfl, rfl, rfl⟩ rfl rfl rfl rfl rfl (by kernel_rfl) Tryd.func7 (by kernel_rfl)
    (of_decide_eq_true (by kernel_rfl)) (by unfold Func.isWrapper; first | (rw [if_pos (by decide +kernel)]; kernel_rfl) | (rw [if_neg (by decide +kernel)]; exact ⟨rfl, rfl⟩))
    (fun os started H enc _ => fnExactPointSubtract_lifted os started H enc)
theorem fnExactPointSubtract_card : Rows.FnExactPointSubtractCardSaid :=
  Claim7.holds_tied_plain_at .later [] [.widerDeep, .widerDeep, .widerDeep] true Rows.fnExactPointSubtractCard.stood.harness false
    fnExactPointSubtract_holds (fun _ h => by cases h) (by kernel_rfl) (fun _ h => by cases h) fnExactPointSubtract_row_tie rfl ⟨rfl, rfl⟩ (by kernel_rfl) rfl
    (fun f fn hf hfn => by
      obtain rfl : f = 7 := Option.some.inj ((show Tryd.prog.funcNamed "loop.example/pub-g03328/laws.FnExactPointSubtract" = some 7 by kernel_rfl).symm.trans hf) |>.symm
      obtain rfl : fn = Tryd.f7 := (Option.some.inj (Tryd.func7.symm.trans hfn)).symm
      exact ⟨by kernel_rfl, fun j t ht => by
        rw [Tryd.params7] at ht
        have h3 : t = 22 := by
          rcases j with _ | _ | j
          · simp at ht; subst ht; simp
          · simp at ht; subst ht; simp
          · simp at ht
        subst h3
        exact (show Tryd.prog.wantsStandIn 22 = false by kernel_rfl)⟩)
    (by kernel_rfl)
end

end Go.Proofs.YtcenlinpbpbpoaaDoor
