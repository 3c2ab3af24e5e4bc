/- Parts of texts for several laws: Kit for walks over points: elements compared, parts of rows loaded, points of the reference built, slices built. The reference's numbers: small, prime, octets, reduced, element. The reference's points: encoded. -/
import Derived.BigRegion
import Derived.ChangeKeysEq
import Derived.Deep.DeepCutAuto
import Derived.Deep.Draws
import Derived.Deep.Fields
import Derived.Deep.MidRow
import Derived.Deep.Quiet
import Derived.Deep.RegionHeld3
import Derived.Deep.WholeRow
import Derived.Great.BuildSlice
import Derived.LaidMore
import Derived.Laws.Bits64b
import Derived.Laws.CopyOwn
import Derived.Laws.CopyRow
import Derived.Laws.Externs
import Derived.Laws.StructEq
import Derived.Laws.Tables
import Derived.Lib.Hide
import Derived.LoopTactic
import Derived.OpenShut
import Derived.ProofKit
import Derived.StillTailTactics
import Derived.Stop.Joined
import Derived.Test.YtcenlinpbpbpoaaDoorProg
import Derived.WalkKit
import Derived.WalkLawsBesides
import Derived.WalkSpells
import Derived.WideKeyArgs
import Derived.Test.YtcenlinpbpbpoaaDoorKC0
import Derived.Test.YtcenlinpbpbpoaaDoorKC1
import Derived.Test.YtcenlinpbpbpoaaDoorKHF1
import Derived.Test.YtcenlinpbpbpoaaDoorKHF3
import Derived.Test.YtcenlinpbpbpoaaDoorKHGr
import Derived.Test.YtcenlinpbpbpoaaDoorKHPI
import Derived.Test.YtcenlinpbpbpoaaDoorKHPO
import Derived.Test.YtcenlinpbpbpoaaDoorKHPP
import Derived.Test.YtcenlinpbpbpoaaDoorKHPS
import Derived.Test.YtcenlinpbpbpoaaDoorKHS8
import Derived.Test.YtcenlinpbpbpoaaDoorKHSQ
import Derived.Test.YtcenlinpbpbpoaaDoorKHSQB
import Derived.Test.YtcenlinpbpbpoaaDoorKHSQN
import Derived.Test.YtcenlinpbpbpoaaDoorKHSRD
import Derived.Test.YtcenlinpbpbpoaaDoorKHU1
import Derived.Test.YtcenlinpbpbpoaaDoorKHUM
import Derived.Test.YtcenlinpbpbpoaaDoorKHUN
import Derived.Test.YtcenlinpbpbpoaaDoorKHUS
import Derived.Test.YtcenlinpbpbpoaaDoorKHUSR
import Derived.Test.YtcenlinpbpbpoaaDoorKHUSe
import Derived.Test.YtcenlinpbpbpoaaDoorKL0
import Derived.Test.YtcenlinpbpbpoaaDoorKL1
import Derived.Test.YtcenlinpbpbpoaaDoorKL2
import Derived.Test.YtcenlinpbpbpoaaDoorKL3
import Derived.Test.YtcenlinpbpbpoaaDoorKL4
namespace Go.Proofs.YtcenlinpbpbpoaaDoor
set_option maxRecDepth 4000
set_option linter.unusedSimpArgs false
set_option linter.unusedVariables false
section
open Go.RowKit
theorem wpList_load_part {P : Program} {ops : Array Oper} {rest : List Oper} {op : Oper} {a : Act} {w : World} {Q : Exit → Act → World → Prop} (hgd : op.guard = none) (ty : TypeId) (x : Operand) (ho : op.op = .load ty x)
    (g o : Nat) (hx : a.eval x = .pointer (some ⟨g, o, none⟩)) (t : TypeId) (cs : Array Value) (fr : Nat × Nat) (hg : w.heap[g]? = some (.cells cs t fr)) (ps : Array Value) (hp : ∀ j, j < ps.size → cs[o + j]? = ps[j]?) {d : TypeDesc}
    (hu : P.underlying ty = some d) (hd : d.isRow = true) (hi : (P.info? ty).map (·.size) = some ps.size)
    (h : wpList P ops Q rest (a.put op.dst (.agg ps)) w) : wpList P ops Q (op :: rest) a w :=
  wpList_load_mid hgd ty x ho g o hx ps.toList d (range_part hg o ps hp) hu hd (by simpa using hi) h
end

section
open Go.RowKit
theorem word_byte (a i : Nat) : wordN a (i / 8) / 2 ^ (8 * (i % 8)) % 256 = byteN a i := by
  unfold wordN byteN
  have e1 : (18446744073709551616 : Nat) = 2 ^ (8 * (i % 8)) * 2 ^ (64 - 8 * (i % 8)) := by
    rw [← Nat.pow_add, show 8 * (i % 8) + (64 - 8 * (i % 8)) = 64 by omega]
  have e2 : a / 18446744073709551616 ^ (i / 8) % 18446744073709551616 / 2 ^ (8 * (i % 8)) = a / 18446744073709551616 ^ (i / 8) / 2 ^ (8 * (i % 8)) % 2 ^ (64 - 8 * (i % 8)) := by
    generalize a / 18446744073709551616 ^ (i / 8) = A
    rw [e1, Nat.mod_mul_right_div_self]
  rw [e2, Nat.mod_mod_of_dvd _ (show 256 ∣ 2 ^ (64 - 8 * (i % 8)) from ⟨2 ^ (64 - 8 * (i % 8) - 8), by rw [show (256 : Nat) = 2 ^ 8 from rfl, ← Nat.pow_add]; congr 1; omega⟩), Nat.div_div_eq_div_mul]
  congr 2
  rw [show (18446744073709551616 : Nat) = 2 ^ 64 from rfl, show (256 : Nat) = 2 ^ 8 from rfl, ← Nat.pow_mul, ← Nat.pow_mul, ← Nat.pow_add]
  congr 1; omega
set_option maxHeartbeats 1000000 in
theorem octets_any (a : Nat) (w : World) : Calls Tryd.prog 67 #[.agg (numC a)] w fun e w' => e = .returned (.agg (arrC a)) ∧ Below w.heap.size w w' := by
  go_enter Tryd.func67, Tryd.ntmps67
  go_wp2_with (first
    | ((with_reducible refine at_store 3 ?_); refine wpList_store_row rfl 22 _ _ rfl (w.heap.size + 1 + 1) zL rfl rfl 22 zL (heap_new_at _ _ _ (by simp only [alloc_size])) info32 rfl zL_one ?_))
  refine wp_named ?_
  intro w1 hw1
  have h0 : w1.heap[w.heap.size]? = some (.cells (numC a) 43 (0, 0)) := by rw [hw1]; exact heap_row _ (by omega) (heap_old _ (heap_old _ (heap_new_at _ _ _ rfl)))
  have h1 : w1.heap[w.heap.size + 1]? = some (.cells zL 22 (0, 0)) := by rw [hw1]; exact heap_row _ (by omega) (heap_old _ (heap_new_at _ _ _ (by simp only [alloc_size])))
  have h2 : w1.heap[w.heap.size + 1 + 1]? = some (.cells zL 22 (0, 0)) := by rw [hw1]; exact setRow_heap _ _ _ _ _ _ (heap_new_at _ _ _ (by simp only [alloc_size]))
  have hB := Lib.hid (show Below w.heap.size w w1 by rw [hw1]; exact below_setRow (below_alloc (below_alloc (below_alloc (Below.refl _ w) _) _) _) (by omega) _)
  have hs1 : w.heap.size + 3 ≤ w1.heap.size := by rw [hw1]; simp only [alloc_size, setRow_size]; omega
  clear hw1
  rw [zL_arrC] at h1 h2
  have r0 := Lib.hid (Row.ofNum h0); have r2 := Lib.hid (Row.ofArr h2)
  have H1 := Lib.hid h1; have H2 := Lib.hid h2
  clear h0 h1 h2
  go_loopw [4] (fun i wr => ∃ k : Nat, k ≤ 32 ∧ i = .int .i64 (k : Int) ∧ Hid (Wr w1 wr (w.heap.size + 1 + 1) 0 32 (fun j => if j < k then byV a j else byV 0 j))) (fun i _ => 32 - (intOf i).toNat)
  case atStart =>
    exact ⟨0, by omega, rfl, Lib.hid ((Wr.start r2.out).congr fun i _ => by simp)⟩
  case round =>
    obtain ⟨k, hk, rfl, hw⟩ := hrel
    by_cases hlt : k < 32
    · have a0 := ((hw.out.others r0.out (Or.inl (by omega))).cell (i := k / 8) (by omega))
      have f2 := (hw.out.row r2.out).frozen (i := k) hlt
      have c2 := (hw.out.row r2.out).cell (i := k) hlt
      simp only [Nat.zero_add] at a0 f2 c2
      rw [if_neg (by omega)] at c2
      unfold woV at a0
      have hb := wordN_lt a (k / 8)
      have hX := Lib.hid (word_byte a k)
      generalize wordN a (k / 8) = X at *
      go_wp2
      go_roundw
      case rel =>
        refine ⟨k + 1, by omega, by go_num, Lib.hid ?_⟩
        have h9 := hw.out.set k (.int .u8 ((X : Int) / 2 ^ (8 * (k % 8)) % 256)) hlt
        rw [Nat.zero_add] at h9
        refine h9.congr fun j hj => ?_
        by_cases hjk : j = k
        · subst hjk
          rw [if_pos (by omega), if_pos rfl]
          unfold byV
          rw [← hX.out]
          congr 1
        · rw [if_neg hjk]
          by_cases h3 : j < k
          · rw [if_pos (by omega), if_pos h3]
          · rw [if_neg (by omega), if_neg h3]
      case measure => simp [intOf]; omega
    · have hw' : Wr w1 wr (w.heap.size + 1 + 1) 0 32 (byV a) := hw.out.congr fun j hj => by rw [if_pos (by omega)]
      have hl := hw'.arr H2.out (arrC_size 0)
      have hs := (hw'.other (w.heap.size + 1) (by omega) (by omega)).trans H1.out
      have hBw := Lib.hid (hB.out.trans (hw'.below (B := w.heap.size) (by omega) hB.out.size))
      clear hw' hw
      go_wp2_with (first
        | ((with_reducible refine at_dst 21 ?_); refine wpList_load_row rfl 22 _ rfl (w.heap.size + 1 + 1) rfl 22 (arrC a) (0, 0) _ hl under32 rfl (info32_of _ (arrC_size _)) ?_)
        | ((with_reducible refine at_store 2 ?_); refine wpList_store_row rfl 22 _ _ rfl (w.heap.size + 1) (arrC a) rfl rfl 22 (arrC 0) hs (info32_of _ (arrC_size _)) (by rw [arrC_size, arrC_size]) (arrC_one _) ?_))
      refine bodyPost_ret (results_cell_row rfl _ _ (w.heap.size + 1) 22 (arrC a) (0, 0) _ rfl (setRow_heap _ _ _ _ _ _ hs) under32 rfl (info32_of _ (arrC_size _))) rfl ⟨rfl, below_setRow hBw.out (by omega) _⟩
end

section
open Go.RowKit
set_option maxHeartbeats 16000000 in
theorem sencoded (P : CP) (X Y Z : Fp) (h : Rp P X Y Z) (w : World) :
    Calls Tryd.prog 32 #[.agg (ptC X.val Y.val Z.val)] w fun e w' => e = .returned (.agg (arrC (encN P))) ∧ Below w.heap.size w w' := by
  go_enter Tryd.func32, Tryd.ntmps32
  go_wp2_with (first
    | ((with_reducible refine at_dst 7 ?_); refine wpList_load_part rfl 43 _ rfl (w.heap.size) 8 rfl _ _ _ (heap_old _ (heap_new_at _ _ _ rfl)) (numC (Z.val)) (part_z _ _ _) underNum rfl (infoNum_of _ (numC_size _)) ?_))
  obtain ⟨R1, qR1⟩ : ∃ uu : Fp, uu = fpInv Z := ⟨_, rfl⟩
  have HR1 := Lib.hid qR1; clear qR1
  refine (sinverse_ff Z R1 HR1 _).mono ?_
  rintro e w1 ⟨rfl, hC1⟩
  have hs1 : w.heap.size + 1 + 1 ≤ w1.heap.size := by have := hC1.size; (try simp only [alloc_size, setRow_size] at this); omega
  replace h1 : w1.heap[w.heap.size]? = some (.cells (ptC (X.val) (Y.val) (Z.val)) 45 (0, 0)) := (heap_call hC1 (heap_old _ (heap_new_at _ _ _ rfl)))
  replace h2 : w1.heap[w.heap.size + 1]? = some (.cells (zL) 22 (0, 0)) := (heap_call hC1 (heap_new_at _ _ _ (by simp only [alloc_size, setRow_size])))
  have hBw1 : Hid (Below w.heap.size w w1) := Lib.hid (below_call (below_alloc (below_alloc (Below.refl _ w) _) _) hC1)
  clear hC1
  obtain ⟨R2, qR2⟩ : ∃ uu : Fp, uu = X * R1 := ⟨_, rfl⟩
  have HR2 := Lib.hid qR2; clear qR2
  obtain ⟨R3, qR3⟩ : ∃ uu : Fp, uu = Y * R1 := ⟨_, rfl⟩
  have HR3 := Lib.hid qR3; clear qR3
  have ex : Hid (R2 = P.x) := Lib.hid (by rw [HR2.out, HR1.out]; exact Rp.affx h)
  have ey : Hid (R3 = P.y) := Lib.hid (by rw [HR3.out, HR1.out]; exact Rp.affy h)
  have lY : R3.val < 57896044618658097711785492504343953926634992332820282019728792003956564819968 := Nat.lt_trans R3.isLt (by unfold pF; omega)
  go_wp2_with (first
    | ((with_reducible refine at_store 3 ?_); refine wpList_store_row rfl 43 _ _ rfl (w1.heap.size) (numC R1.val) rfl rfl 43 (z4) (heap_new_at _ _ _ rfl) (infoNum_of (numC R1.val) (numC_size _)) (z4_size.trans (numC_size _).symm) (numC_one _) ?_))
  try simp only [Act.put]
  refine wp_named ?_
  intro w2 ew2
  have hs2 : w1.heap.size + 1 ≤ w2.heap.size := by rw [ew2]; (try simp only [alloc_size, setRow_size]); omega
  replace h1 : w2.heap[w.heap.size]? = some (.cells (ptC (X.val) (Y.val) (Z.val)) 45 (0, 0)) := by rw [ew2]; exact (heap_row _ (by omega) (heap_old _ h1))
  replace h2 : w2.heap[w.heap.size + 1]? = some (.cells (zL) 22 (0, 0)) := by rw [ew2]; exact (heap_row _ (by omega) (heap_old _ h2))
  replace h3 : w2.heap[w1.heap.size]? = some (.cells (numC R1.val) 43 (0, 0)) := by rw [ew2]; exact (setRow_heap _ _ _ _ _ _ (heap_new_at _ _ _ rfl))
  have hBw2 : Hid (Below w.heap.size w w2) := Lib.hid (by rw [ew2]; exact (below_setRow (below_alloc hBw1.out _) (by omega) _))
  clear ew2
  go_cut [4] (fun s4 wx => ∃ g4 : Nat, s4 = .pointer (some ⟨g4, 0, none⟩) ∧ Hid (w2.heap.size ≤ g4) ∧ Hid (wx.heap[g4]? = some (.cells (numC R2.val) 43 (0, 0))) ∧ Hid (wx.heap[w.heap.size]? = some (.cells (ptC (X.val) (Y.val) (Z.val)) 45 (0, 0))) ∧ Hid (wx.heap[w.heap.size + 1]? = some (.cells (zL) 22 (0, 0))) ∧ Hid (wx.heap[w1.heap.size]? = some (.cells (numC R1.val) 43 (0, 0))) ∧ Hid (Below w.heap.size w wx) ∧ Hid (w2.heap.size ≤ wx.heap.size))
  case first =>
    refine wp_region_noPanic ?_
    refine wp_region_held_drew (S := Keep (w2.heap.size) w2) (by kernel_rfl) (Keep.start _ _) ?_
    intro hS
    obtain ⟨w3, ed⟩ : ∃ u : World, u = w2.drew := ⟨_, rfl⟩
    rw [← ed] at hS ⊢
    have xh1 : w3.heap[w.heap.size]? = some (.cells (ptC (X.val) (Y.val) (Z.val)) 45 (0, 0)) := by rw [ed]; exact h1
    have xh2 : w3.heap[w.heap.size + 1]? = some (.cells (zL) 22 (0, 0)) := by rw [ed]; exact h2
    have xh3 : w3.heap[w1.heap.size]? = some (.cells (numC R1.val) 43 (0, 0)) := by rw [ed]; exact h3
    clear ed
    have hSz := hS.size
    clear xh1
    clear xh2
    clear xh3
    refine takeAtK (i := 0) (v := .pointer (some ⟨w.heap.size, 0, none⟩)) rfl (some 9) rfl (take_run rfl (fun _ _ => by go_simp)) hS ?_
    simp only [Act.put, sia, sc0, scs]
    refine takeAtK (i := 1) (v := .agg (numC X.val)) rfl (some 10) rfl (take_part rfl _ _ rfl (w.heap.size) 0 rfl _ _ _ h1 (Nat.ne_of_lt (heap_lt h1)) (numC (X.val)) (part_x _ _ _) underNum rfl (infoNum_of _ (numC_size _))) hS ?_
    simp only [Act.put, sia, sc0, scs]
    refine takeAtK (i := 2) (v := .agg (numC R1.val)) rfl (some 11) rfl (take_row rfl _ _ rfl (w1.heap.size) rfl _ _ _ h3 (Nat.ne_of_lt (heap_lt h3)) underNum rfl (infoNum_of (numC R1.val) (numC_size _))) hS ?_
    simp only [Act.put, sia, sc0, scs]
    refine wpAnyH_ready (rs := [3, 5]) (by kernel_rfl) (by simp) ?_
    refine (AllReadyH.cons rfl ?_ (AllReadyH.cons rfl ?_ AllReadyH.nil))
    · intro K hK
      refine ready_call rfl (some 12) rfl 46 #[] (by go_simp) ?_
      refine (prime_any _).mono ?_
      rintro e w4 ⟨rfl, hC⟩
      refine ⟨_, rfl, ?_⟩
      simp only [Act.put, sia, sc0, scs]
      have hS := hS.call hC
      have hz4 := hC.size
      clear hC
      refine hK.out _ _ hS ?_
      clear hK K
      intro _
      have hSz := hS.size
      refine wpAnyH_ready (rs := [4, 5]) (by kernel_rfl) (by simp) ?_
      refine (AllReadyH.cons rfl ?_ (AllReadyH.cons rfl ?_ AllReadyH.nil))
      · intro K hK
        refine ready_call rfl (some 13) rfl 45 #[.agg (numC X.val), .agg (numC R1.val), .agg (numC pF)] (by go_simp) ?_
        refine (stimes_ff X R1 R2 HR2 _).mono ?_
        rintro e w5 ⟨rfl, hC⟩
        refine ⟨_, rfl, ?_⟩
        simp only [Act.put, sia, sc0, scs]
        have hS := hS.call hC
        have hz5 := hC.size
        clear hC
        refine hK.out _ _ hS ?_
        clear hK K
        intro _
        have hSz := hS.size
        refine wpAnyH_ready (rs := [5]) (by kernel_rfl) (by simp) ?_
        refine (AllReadyH.cons rfl ?_ AllReadyH.nil)
        intro K hK
        refine ready_run rfl (some 4) rfl (.pointer (some ⟨w5.heap.size, 0, none⟩)) (w5.alloc (.cells z4 43)) (by go_simp; try rfl) ?_
        simp only [Act.put, sia, sc0, scs]
        obtain ⟨w6, ea⟩ : ∃ u : World, u = w5.alloc (.cells z4 43) := ⟨_, rfl⟩
        rw [← ea]
        have hS := hS.alloc (.cells z4 43)
        rw [← ea] at hS
        have hz6 : w5.heap.size + 1 ≤ w6.heap.size := by rw [ea, alloc_size]; omega
        have hy6 : w2.heap.size ≤ w5.heap.size := hSz
        have xh4 : w6.heap[w5.heap.size]? = some (.cells (z4) 43 (0, 0)) := by rw [ea]; exact heap_new_at _ _ _ rfl
        clear ea
        refine hK.out _ _ hS ?_
        clear hK K
        intro _
        have hSz := hS.size
        refine wpAnyH_ready (rs := [6]) (by kernel_rfl) (by simp) ?_
        refine (AllReadyH.cons rfl ?_ AllReadyH.nil)
        intro K hK
        rw [if_pos (by rfl)]
        refine wp_store_row 43 _ _ rfl (w5.heap.size) (numC R2.val) rfl rfl 43 (z4) xh4 (infoNum_of (numC R2.val) (numC_size _)) (z4_size.trans (numC_size _).symm) (numC_one _) ?_
        refine put_at (none) rfl ?_
        simp only [Act.put, sia, sc0, scs]
        have xh4 : (w6.setRow (w5.heap.size) (numC R2.val)).heap[w5.heap.size]? = some (.cells (numC R2.val) 43 (0, 0)) := (setRow_heap _ _ _ _ _ _ xh4)
        have hS := hS.storeNew (numC R2.val) (show w2.heap.size ≤ w5.heap.size by omega)
        generalize w6.setRow (w5.heap.size) (numC R2.val) = w7 at *
        refine hK.out _ _ hS ?_
        clear hK K
        intro _
        have hSz := hS.size
        refine wpAnyH_done (by kernel_rfl) ?_ _
        refine NoPanic.normal ?_
        have hsz := hS.size
        have h1 : w7.heap[w.heap.size]? = some (.cells (ptC (X.val) (Y.val) (Z.val)) 45 (0, 0)) := hS.old h1 (Nat.ne_of_lt (heap_lt h1))
        have h2 : w7.heap[w.heap.size + 1]? = some (.cells (zL) 22 (0, 0)) := hS.old h2 (Nat.ne_of_lt (heap_lt h2))
        have h3 : w7.heap[w1.heap.size]? = some (.cells (numC R1.val) 43 (0, 0)) := hS.old h3 (Nat.ne_of_lt (heap_lt h3))
        have h4 := xh4
        have hBw7 : Hid (Below w.heap.size w w7) := Lib.hid (hBw2.out.trans (hS.below (by omega) hBw2.out.size))
        clear hS
        go_wp2_with fail
        go_meet
        exact ⟨w5.heap.size, rfl, Lib.hid (show w2.heap.size ≤ w5.heap.size by omega), Lib.hid h4, Lib.hid h1, Lib.hid h2, Lib.hid h3, Lib.hid hBw7.out, Lib.hid (show w2.heap.size ≤ w7.heap.size by omega)⟩
      · intro K hK
        refine ready_run rfl (some 4) rfl (.pointer (some ⟨w4.heap.size, 0, none⟩)) (w4.alloc (.cells z4 43)) (by go_simp; try rfl) ?_
        simp only [Act.put, sia, sc0, scs]
        obtain ⟨w9, ea⟩ : ∃ u : World, u = w4.alloc (.cells z4 43) := ⟨_, rfl⟩
        rw [← ea]
        have hS := hS.alloc (.cells z4 43)
        rw [← ea] at hS
        have hz9 : w4.heap.size + 1 ≤ w9.heap.size := by rw [ea, alloc_size]; omega
        have hy9 : w2.heap.size ≤ w4.heap.size := hSz
        have xh4 : w9.heap[w4.heap.size]? = some (.cells (z4) 43 (0, 0)) := by rw [ea]; exact heap_new_at _ _ _ rfl
        clear ea
        refine hK.out _ _ hS ?_
        clear hK K
        intro _
        have hSz := hS.size
        refine wpAnyH_ready (rs := [4]) (by kernel_rfl) (by simp) ?_
        refine (AllReadyH.cons rfl ?_ AllReadyH.nil)
        intro K hK
        refine ready_call rfl (some 13) rfl 45 #[.agg (numC X.val), .agg (numC R1.val), .agg (numC pF)] (by go_simp) ?_
        refine (stimes_ff X R1 R2 HR2 _).mono ?_
        rintro e w10 ⟨rfl, hC⟩
        refine ⟨_, rfl, ?_⟩
        simp only [Act.put, sia, sc0, scs]
        have xh4 : w10.heap[w4.heap.size]? = some (.cells (z4) 43 (0, 0)) := (heap_call hC xh4)
        have hS := hS.call hC
        have hz10 := hC.size
        clear hC
        refine hK.out _ _ hS ?_
        clear hK K
        intro _
        have hSz := hS.size
        refine wpAnyH_ready (rs := [6]) (by kernel_rfl) (by simp) ?_
        refine (AllReadyH.cons rfl ?_ AllReadyH.nil)
        intro K hK
        rw [if_pos (by rfl)]
        refine wp_store_row 43 _ _ rfl (w4.heap.size) (numC R2.val) rfl rfl 43 (z4) xh4 (infoNum_of (numC R2.val) (numC_size _)) (z4_size.trans (numC_size _).symm) (numC_one _) ?_
        refine put_at (none) rfl ?_
        simp only [Act.put, sia, sc0, scs]
        have xh4 : (w10.setRow (w4.heap.size) (numC R2.val)).heap[w4.heap.size]? = some (.cells (numC R2.val) 43 (0, 0)) := (setRow_heap _ _ _ _ _ _ xh4)
        have hS := hS.storeNew (numC R2.val) (show w2.heap.size ≤ w4.heap.size by omega)
        generalize w10.setRow (w4.heap.size) (numC R2.val) = w11 at *
        refine hK.out _ _ hS ?_
        clear hK K
        intro _
        have hSz := hS.size
        refine wpAnyH_done (by kernel_rfl) ?_ _
        refine NoPanic.normal ?_
        have hsz := hS.size
        have h1 : w11.heap[w.heap.size]? = some (.cells (ptC (X.val) (Y.val) (Z.val)) 45 (0, 0)) := hS.old h1 (Nat.ne_of_lt (heap_lt h1))
        have h2 : w11.heap[w.heap.size + 1]? = some (.cells (zL) 22 (0, 0)) := hS.old h2 (Nat.ne_of_lt (heap_lt h2))
        have h3 : w11.heap[w1.heap.size]? = some (.cells (numC R1.val) 43 (0, 0)) := hS.old h3 (Nat.ne_of_lt (heap_lt h3))
        have h4 := xh4
        have hBw11 : Hid (Below w.heap.size w w11) := Lib.hid (hBw2.out.trans (hS.below (by omega) hBw2.out.size))
        clear hS
        go_wp2_with fail
        go_meet
        exact ⟨w4.heap.size, rfl, Lib.hid (show w2.heap.size ≤ w4.heap.size by omega), Lib.hid h4, Lib.hid h1, Lib.hid h2, Lib.hid h3, Lib.hid hBw11.out, Lib.hid (show w2.heap.size ≤ w11.heap.size by omega)⟩
    · intro K hK
      refine ready_run rfl (some 4) rfl (.pointer (some ⟨w3.heap.size, 0, none⟩)) (w3.alloc (.cells z4 43)) (by go_simp; try rfl) ?_
      simp only [Act.put, sia, sc0, scs]
      obtain ⟨w13, ea⟩ : ∃ u : World, u = w3.alloc (.cells z4 43) := ⟨_, rfl⟩
      rw [← ea]
      have hS := hS.alloc (.cells z4 43)
      rw [← ea] at hS
      have hz13 : w3.heap.size + 1 ≤ w13.heap.size := by rw [ea, alloc_size]; omega
      have hy13 : w2.heap.size ≤ w3.heap.size := hSz
      have xh4 : w13.heap[w3.heap.size]? = some (.cells (z4) 43 (0, 0)) := by rw [ea]; exact heap_new_at _ _ _ rfl
      clear ea
      refine hK.out _ _ hS ?_
      clear hK K
      intro _
      have hSz := hS.size
      refine wpAnyH_ready (rs := [3]) (by kernel_rfl) (by simp) ?_
      refine (AllReadyH.cons rfl ?_ AllReadyH.nil)
      intro K hK
      refine ready_call rfl (some 12) rfl 46 #[] (by go_simp) ?_
      refine (prime_any _).mono ?_
      rintro e w14 ⟨rfl, hC⟩
      refine ⟨_, rfl, ?_⟩
      simp only [Act.put, sia, sc0, scs]
      have xh4 : w14.heap[w3.heap.size]? = some (.cells (z4) 43 (0, 0)) := (heap_call hC xh4)
      have hS := hS.call hC
      have hz14 := hC.size
      clear hC
      refine hK.out _ _ hS ?_
      clear hK K
      intro _
      have hSz := hS.size
      refine wpAnyH_ready (rs := [4]) (by kernel_rfl) (by simp) ?_
      refine (AllReadyH.cons rfl ?_ AllReadyH.nil)
      intro K hK
      refine ready_call rfl (some 13) rfl 45 #[.agg (numC X.val), .agg (numC R1.val), .agg (numC pF)] (by go_simp) ?_
      refine (stimes_ff X R1 R2 HR2 _).mono ?_
      rintro e w15 ⟨rfl, hC⟩
      refine ⟨_, rfl, ?_⟩
      simp only [Act.put, sia, sc0, scs]
      have xh4 : w15.heap[w3.heap.size]? = some (.cells (z4) 43 (0, 0)) := (heap_call hC xh4)
      have hS := hS.call hC
      have hz15 := hC.size
      clear hC
      refine hK.out _ _ hS ?_
      clear hK K
      intro _
      have hSz := hS.size
      refine wpAnyH_ready (rs := [6]) (by kernel_rfl) (by simp) ?_
      refine (AllReadyH.cons rfl ?_ AllReadyH.nil)
      intro K hK
      rw [if_pos (by rfl)]
      refine wp_store_row 43 _ _ rfl (w3.heap.size) (numC R2.val) rfl rfl 43 (z4) xh4 (infoNum_of (numC R2.val) (numC_size _)) (z4_size.trans (numC_size _).symm) (numC_one _) ?_
      refine put_at (none) rfl ?_
      simp only [Act.put, sia, sc0, scs]
      have xh4 : (w15.setRow (w3.heap.size) (numC R2.val)).heap[w3.heap.size]? = some (.cells (numC R2.val) 43 (0, 0)) := (setRow_heap _ _ _ _ _ _ xh4)
      have hS := hS.storeNew (numC R2.val) (show w2.heap.size ≤ w3.heap.size by omega)
      generalize w15.setRow (w3.heap.size) (numC R2.val) = w16 at *
      refine hK.out _ _ hS ?_
      clear hK K
      intro _
      have hSz := hS.size
      refine wpAnyH_done (by kernel_rfl) ?_ _
      refine NoPanic.normal ?_
      have hsz := hS.size
      have h1 : w16.heap[w.heap.size]? = some (.cells (ptC (X.val) (Y.val) (Z.val)) 45 (0, 0)) := hS.old h1 (Nat.ne_of_lt (heap_lt h1))
      have h2 : w16.heap[w.heap.size + 1]? = some (.cells (zL) 22 (0, 0)) := hS.old h2 (Nat.ne_of_lt (heap_lt h2))
      have h3 : w16.heap[w1.heap.size]? = some (.cells (numC R1.val) 43 (0, 0)) := hS.old h3 (Nat.ne_of_lt (heap_lt h3))
      have h4 := xh4
      have hBw16 : Hid (Below w.heap.size w w16) := Lib.hid (hBw2.out.trans (hS.below (by omega) hBw2.out.size))
      clear hS
      go_wp2_with fail
      go_meet
      exact ⟨w3.heap.size, rfl, Lib.hid (show w2.heap.size ≤ w3.heap.size by omega), Lib.hid h4, Lib.hid h1, Lib.hid h2, Lib.hid h3, Lib.hid hBw16.out, Lib.hid (show w2.heap.size ≤ w16.heap.size by omega)⟩
  case rest =>
    obtain ⟨g4, rfl, Hg4, Hh4, Hh1, Hh2, Hh3, hBw18, Hsz18⟩ := hcut
    obtain ⟨w18, rfl⟩ : ∃ u : World, u = wc := ⟨_, rfl⟩
    have hgl4 := Hg4.out
    have h4 := Hh4.out
    have hgu4 := heap_lt h4
    have h1 := Hh1.out
    have h2 := Hh2.out
    have h3 := Hh3.out
    have hsz18 := Hsz18.out
    go_wp2_with fail
    try simp only [Act.put]
    refine wp_named ?_
    intro w19 ew19
    have hs19 : w18.heap.size ≤ w19.heap.size := by rw [ew19]; (try simp only [alloc_size, setRow_size]); omega
    replace h1 : w19.heap[w.heap.size]? = some (.cells (ptC (X.val) (Y.val) (Z.val)) 45 (0, 0)) := by rw [ew19]; exact h1
    replace h2 : w19.heap[w.heap.size + 1]? = some (.cells (zL) 22 (0, 0)) := by rw [ew19]; exact h2
    replace h3 : w19.heap[w1.heap.size]? = some (.cells (numC R1.val) 43 (0, 0)) := by rw [ew19]; exact h3
    replace h4 : w19.heap[g4]? = some (.cells (numC R2.val) 43 (0, 0)) := by rw [ew19]; exact h4
    have hBw19 : Hid (Below w.heap.size w w19) := Lib.hid (by rw [ew19]; exact hBw18.out)
    clear ew19
    go_cut [5] (fun s5 wx => ∃ g5 : Nat, s5 = .pointer (some ⟨g5, 0, none⟩) ∧ Hid (w19.heap.size ≤ g5) ∧ Hid (wx.heap[g5]? = some (.cells (arrC (R3.val)) 22 (0, 0))) ∧ Hid (wx.heap[w.heap.size]? = some (.cells (ptC (X.val) (Y.val) (Z.val)) 45 (0, 0))) ∧ Hid (wx.heap[w.heap.size + 1]? = some (.cells (zL) 22 (0, 0))) ∧ Hid (wx.heap[w1.heap.size]? = some (.cells (numC R1.val) 43 (0, 0))) ∧ Hid (wx.heap[g4]? = some (.cells (numC R2.val) 43 (0, 0))) ∧ Hid (Below w.heap.size w wx) ∧ Hid (w19.heap.size ≤ wx.heap.size))
    case first =>
      refine wp_region_noPanic ?_
      refine wp_region_held_drew (S := Keep (w19.heap.size) w19) (by kernel_rfl) (Keep.start _ _) ?_
      intro hS
      obtain ⟨w20, ed⟩ : ∃ u : World, u = w19.drew := ⟨_, rfl⟩
      rw [← ed] at hS ⊢
      have xh1 : w20.heap[w.heap.size]? = some (.cells (ptC (X.val) (Y.val) (Z.val)) 45 (0, 0)) := by rw [ed]; exact h1
      have xh2 : w20.heap[w.heap.size + 1]? = some (.cells (zL) 22 (0, 0)) := by rw [ed]; exact h2
      have xh3 : w20.heap[w1.heap.size]? = some (.cells (numC R1.val) 43 (0, 0)) := by rw [ed]; exact h3
      have xh4 : w20.heap[g4]? = some (.cells (numC R2.val) 43 (0, 0)) := by rw [ed]; exact h4
      clear ed
      have hSz := hS.size
      clear xh1
      clear xh2
      clear xh3
      clear xh4
      refine takeAtK (i := 0) (v := .pointer (some ⟨w.heap.size, 4, none⟩)) rfl (some 14) rfl (take_run rfl (fun _ _ => by go_simp)) hS ?_
      simp only [Act.put, sia, sc0, scs]
      refine takeAtK (i := 1) (v := .agg (numC Y.val)) rfl (some 15) rfl (take_part rfl _ _ rfl (w.heap.size) 4 rfl _ _ _ h1 (Nat.ne_of_lt (heap_lt h1)) (numC (Y.val)) (part_y _ _ _) underNum rfl (infoNum_of _ (numC_size _))) hS ?_
      simp only [Act.put, sia, sc0, scs]
      refine takeAtK (i := 2) (v := .agg (numC R1.val)) rfl (some 16) rfl (take_row rfl _ _ rfl (w1.heap.size) rfl _ _ _ h3 (Nat.ne_of_lt (heap_lt h3)) underNum rfl (infoNum_of (numC R1.val) (numC_size _))) hS ?_
      simp only [Act.put, sia, sc0, scs]
      refine wpAnyH_ready (rs := [3, 6]) (by kernel_rfl) (by simp) ?_
      refine (AllReadyH.cons rfl ?_ (AllReadyH.cons rfl ?_ AllReadyH.nil))
      · intro K hK
        refine ready_call rfl (some 17) rfl 46 #[] (by go_simp) ?_
        refine (prime_any _).mono ?_
        rintro e w21 ⟨rfl, hC⟩
        refine ⟨_, rfl, ?_⟩
        simp only [Act.put, sia, sc0, scs]
        have hS := hS.call hC
        have hz21 := hC.size
        clear hC
        refine hK.out _ _ hS ?_
        clear hK K
        intro _
        have hSz := hS.size
        refine wpAnyH_ready (rs := [4, 6]) (by kernel_rfl) (by simp) ?_
        refine (AllReadyH.cons rfl ?_ (AllReadyH.cons rfl ?_ AllReadyH.nil))
        · intro K hK
          refine ready_call rfl (some 18) rfl 45 #[.agg (numC Y.val), .agg (numC R1.val), .agg (numC pF)] (by go_simp) ?_
          refine (stimes_ff Y R1 R3 HR3 _).mono ?_
          rintro e w22 ⟨rfl, hC⟩
          refine ⟨_, rfl, ?_⟩
          simp only [Act.put, sia, sc0, scs]
          have hS := hS.call hC
          have hz22 := hC.size
          clear hC
          refine hK.out _ _ hS ?_
          clear hK K
          intro _
          have hSz := hS.size
          refine wpAnyH_ready (rs := [5, 6]) (by kernel_rfl) (by simp) ?_
          refine (AllReadyH.cons rfl ?_ (AllReadyH.cons rfl ?_ AllReadyH.nil))
          · intro K hK
            refine ready_call rfl (some 19) rfl 67 #[.agg (numC R3.val)] (by go_simp) ?_
            refine (octets_any R3.val _).mono ?_
            rintro e w23 ⟨rfl, hC⟩
            refine ⟨_, rfl, ?_⟩
            simp only [Act.put, sia, sc0, scs]
            have hS := hS.call hC
            have hz23 := hC.size
            clear hC
            refine hK.out _ _ hS ?_
            clear hK K
            intro _
            have hSz := hS.size
            refine wpAnyH_ready (rs := [6]) (by kernel_rfl) (by simp) ?_
            refine (AllReadyH.cons rfl ?_ AllReadyH.nil)
            intro K hK
            refine ready_run rfl (some 5) rfl (.pointer (some ⟨w23.heap.size, 0, none⟩)) (w23.alloc (.cells zL 22)) (by go_simp; try rfl) ?_
            simp only [Act.put, sia, sc0, scs]
            obtain ⟨w24, ea⟩ : ∃ u : World, u = w23.alloc (.cells zL 22) := ⟨_, rfl⟩
            rw [← ea]
            have hS := hS.alloc (.cells zL 22)
            rw [← ea] at hS
            have hz24 : w23.heap.size + 1 ≤ w24.heap.size := by rw [ea, alloc_size]; omega
            have hy24 : w19.heap.size ≤ w23.heap.size := hSz
            have xh5 : w24.heap[w23.heap.size]? = some (.cells (zL) 22 (0, 0)) := by rw [ea]; exact heap_new_at _ _ _ rfl
            clear ea
            refine hK.out _ _ hS ?_
            clear hK K
            intro _
            have hSz := hS.size
            refine wpAnyH_ready (rs := [7]) (by kernel_rfl) (by simp) ?_
            refine (AllReadyH.cons rfl ?_ AllReadyH.nil)
            intro K hK
            rw [if_pos (by rfl)]
            refine wp_store_row 22 _ _ rfl (w23.heap.size) (arrC (R3.val)) rfl rfl 22 (zL) xh5 (info32_of (arrC (R3.val)) (arrC_size _)) (zL_size.trans (arrC_size _).symm) (arrC_one _) ?_
            refine put_at (none) rfl ?_
            simp only [Act.put, sia, sc0, scs]
            have xh5 : (w24.setRow (w23.heap.size) (arrC (R3.val))).heap[w23.heap.size]? = some (.cells (arrC (R3.val)) 22 (0, 0)) := (setRow_heap _ _ _ _ _ _ xh5)
            have hS := hS.storeNew (arrC (R3.val)) (show w19.heap.size ≤ w23.heap.size by omega)
            generalize w24.setRow (w23.heap.size) (arrC (R3.val)) = w25 at *
            refine hK.out _ _ hS ?_
            clear hK K
            intro _
            have hSz := hS.size
            refine wpAnyH_done (by kernel_rfl) ?_ _
            refine NoPanic.normal ?_
            have hsz := hS.size
            have h1 : w25.heap[w.heap.size]? = some (.cells (ptC (X.val) (Y.val) (Z.val)) 45 (0, 0)) := hS.old h1 (Nat.ne_of_lt (heap_lt h1))
            have h2 : w25.heap[w.heap.size + 1]? = some (.cells (zL) 22 (0, 0)) := hS.old h2 (Nat.ne_of_lt (heap_lt h2))
            have h3 : w25.heap[w1.heap.size]? = some (.cells (numC R1.val) 43 (0, 0)) := hS.old h3 (Nat.ne_of_lt (heap_lt h3))
            have h4 : w25.heap[g4]? = some (.cells (numC R2.val) 43 (0, 0)) := hS.old h4 (Nat.ne_of_lt (heap_lt h4))
            have h5 := xh5
            have hBw25 : Hid (Below w.heap.size w w25) := Lib.hid (hBw19.out.trans (hS.below (by omega) hBw19.out.size))
            clear hS
            go_wp2_with fail
            go_meet
            exact ⟨w23.heap.size, rfl, Lib.hid (show w19.heap.size ≤ w23.heap.size by omega), Lib.hid h5, Lib.hid h1, Lib.hid h2, Lib.hid h3, Lib.hid h4, Lib.hid hBw25.out, Lib.hid (show w19.heap.size ≤ w25.heap.size by omega)⟩
          · intro K hK
            refine ready_run rfl (some 5) rfl (.pointer (some ⟨w22.heap.size, 0, none⟩)) (w22.alloc (.cells zL 22)) (by go_simp; try rfl) ?_
            simp only [Act.put, sia, sc0, scs]
            obtain ⟨w27, ea⟩ : ∃ u : World, u = w22.alloc (.cells zL 22) := ⟨_, rfl⟩
            rw [← ea]
            have hS := hS.alloc (.cells zL 22)
            rw [← ea] at hS
            have hz27 : w22.heap.size + 1 ≤ w27.heap.size := by rw [ea, alloc_size]; omega
            have hy27 : w19.heap.size ≤ w22.heap.size := hSz
            have xh5 : w27.heap[w22.heap.size]? = some (.cells (zL) 22 (0, 0)) := by rw [ea]; exact heap_new_at _ _ _ rfl
            clear ea
            refine hK.out _ _ hS ?_
            clear hK K
            intro _
            have hSz := hS.size
            refine wpAnyH_ready (rs := [5]) (by kernel_rfl) (by simp) ?_
            refine (AllReadyH.cons rfl ?_ AllReadyH.nil)
            intro K hK
            refine ready_call rfl (some 19) rfl 67 #[.agg (numC R3.val)] (by go_simp) ?_
            refine (octets_any R3.val _).mono ?_
            rintro e w28 ⟨rfl, hC⟩
            refine ⟨_, rfl, ?_⟩
            simp only [Act.put, sia, sc0, scs]
            have xh5 : w28.heap[w22.heap.size]? = some (.cells (zL) 22 (0, 0)) := (heap_call hC xh5)
            have hS := hS.call hC
            have hz28 := hC.size
            clear hC
            refine hK.out _ _ hS ?_
            clear hK K
            intro _
            have hSz := hS.size
            refine wpAnyH_ready (rs := [7]) (by kernel_rfl) (by simp) ?_
            refine (AllReadyH.cons rfl ?_ AllReadyH.nil)
            intro K hK
            rw [if_pos (by rfl)]
            refine wp_store_row 22 _ _ rfl (w22.heap.size) (arrC (R3.val)) rfl rfl 22 (zL) xh5 (info32_of (arrC (R3.val)) (arrC_size _)) (zL_size.trans (arrC_size _).symm) (arrC_one _) ?_
            refine put_at (none) rfl ?_
            simp only [Act.put, sia, sc0, scs]
            have xh5 : (w28.setRow (w22.heap.size) (arrC (R3.val))).heap[w22.heap.size]? = some (.cells (arrC (R3.val)) 22 (0, 0)) := (setRow_heap _ _ _ _ _ _ xh5)
            have hS := hS.storeNew (arrC (R3.val)) (show w19.heap.size ≤ w22.heap.size by omega)
            generalize w28.setRow (w22.heap.size) (arrC (R3.val)) = w29 at *
            refine hK.out _ _ hS ?_
            clear hK K
            intro _
            have hSz := hS.size
            refine wpAnyH_done (by kernel_rfl) ?_ _
            refine NoPanic.normal ?_
            have hsz := hS.size
            have h1 : w29.heap[w.heap.size]? = some (.cells (ptC (X.val) (Y.val) (Z.val)) 45 (0, 0)) := hS.old h1 (Nat.ne_of_lt (heap_lt h1))
            have h2 : w29.heap[w.heap.size + 1]? = some (.cells (zL) 22 (0, 0)) := hS.old h2 (Nat.ne_of_lt (heap_lt h2))
            have h3 : w29.heap[w1.heap.size]? = some (.cells (numC R1.val) 43 (0, 0)) := hS.old h3 (Nat.ne_of_lt (heap_lt h3))
            have h4 : w29.heap[g4]? = some (.cells (numC R2.val) 43 (0, 0)) := hS.old h4 (Nat.ne_of_lt (heap_lt h4))
            have h5 := xh5
            have hBw29 : Hid (Below w.heap.size w w29) := Lib.hid (hBw19.out.trans (hS.below (by omega) hBw19.out.size))
            clear hS
            go_wp2_with fail
            go_meet
            exact ⟨w22.heap.size, rfl, Lib.hid (show w19.heap.size ≤ w22.heap.size by omega), Lib.hid h5, Lib.hid h1, Lib.hid h2, Lib.hid h3, Lib.hid h4, Lib.hid hBw29.out, Lib.hid (show w19.heap.size ≤ w29.heap.size by omega)⟩
        · intro K hK
          refine ready_run rfl (some 5) rfl (.pointer (some ⟨w21.heap.size, 0, none⟩)) (w21.alloc (.cells zL 22)) (by go_simp; try rfl) ?_
          simp only [Act.put, sia, sc0, scs]
          obtain ⟨w31, ea⟩ : ∃ u : World, u = w21.alloc (.cells zL 22) := ⟨_, rfl⟩
          rw [← ea]
          have hS := hS.alloc (.cells zL 22)
          rw [← ea] at hS
          have hz31 : w21.heap.size + 1 ≤ w31.heap.size := by rw [ea, alloc_size]; omega
          have hy31 : w19.heap.size ≤ w21.heap.size := hSz
          have xh5 : w31.heap[w21.heap.size]? = some (.cells (zL) 22 (0, 0)) := by rw [ea]; exact heap_new_at _ _ _ rfl
          clear ea
          refine hK.out _ _ hS ?_
          clear hK K
          intro _
          have hSz := hS.size
          refine wpAnyH_ready (rs := [4]) (by kernel_rfl) (by simp) ?_
          refine (AllReadyH.cons rfl ?_ AllReadyH.nil)
          intro K hK
          refine ready_call rfl (some 18) rfl 45 #[.agg (numC Y.val), .agg (numC R1.val), .agg (numC pF)] (by go_simp) ?_
          refine (stimes_ff Y R1 R3 HR3 _).mono ?_
          rintro e w32 ⟨rfl, hC⟩
          refine ⟨_, rfl, ?_⟩
          simp only [Act.put, sia, sc0, scs]
          have xh5 : w32.heap[w21.heap.size]? = some (.cells (zL) 22 (0, 0)) := (heap_call hC xh5)
          have hS := hS.call hC
          have hz32 := hC.size
          clear hC
          refine hK.out _ _ hS ?_
          clear hK K
          intro _
          have hSz := hS.size
          refine wpAnyH_ready (rs := [5]) (by kernel_rfl) (by simp) ?_
          refine (AllReadyH.cons rfl ?_ AllReadyH.nil)
          intro K hK
          refine ready_call rfl (some 19) rfl 67 #[.agg (numC R3.val)] (by go_simp) ?_
          refine (octets_any R3.val _).mono ?_
          rintro e w33 ⟨rfl, hC⟩
          refine ⟨_, rfl, ?_⟩
          simp only [Act.put, sia, sc0, scs]
          have xh5 : w33.heap[w21.heap.size]? = some (.cells (zL) 22 (0, 0)) := (heap_call hC xh5)
          have hS := hS.call hC
          have hz33 := hC.size
          clear hC
          refine hK.out _ _ hS ?_
          clear hK K
          intro _
          have hSz := hS.size
          refine wpAnyH_ready (rs := [7]) (by kernel_rfl) (by simp) ?_
          refine (AllReadyH.cons rfl ?_ AllReadyH.nil)
          intro K hK
          rw [if_pos (by rfl)]
          refine wp_store_row 22 _ _ rfl (w21.heap.size) (arrC (R3.val)) rfl rfl 22 (zL) xh5 (info32_of (arrC (R3.val)) (arrC_size _)) (zL_size.trans (arrC_size _).symm) (arrC_one _) ?_
          refine put_at (none) rfl ?_
          simp only [Act.put, sia, sc0, scs]
          have xh5 : (w33.setRow (w21.heap.size) (arrC (R3.val))).heap[w21.heap.size]? = some (.cells (arrC (R3.val)) 22 (0, 0)) := (setRow_heap _ _ _ _ _ _ xh5)
          have hS := hS.storeNew (arrC (R3.val)) (show w19.heap.size ≤ w21.heap.size by omega)
          generalize w33.setRow (w21.heap.size) (arrC (R3.val)) = w34 at *
          refine hK.out _ _ hS ?_
          clear hK K
          intro _
          have hSz := hS.size
          refine wpAnyH_done (by kernel_rfl) ?_ _
          refine NoPanic.normal ?_
          have hsz := hS.size
          have h1 : w34.heap[w.heap.size]? = some (.cells (ptC (X.val) (Y.val) (Z.val)) 45 (0, 0)) := hS.old h1 (Nat.ne_of_lt (heap_lt h1))
          have h2 : w34.heap[w.heap.size + 1]? = some (.cells (zL) 22 (0, 0)) := hS.old h2 (Nat.ne_of_lt (heap_lt h2))
          have h3 : w34.heap[w1.heap.size]? = some (.cells (numC R1.val) 43 (0, 0)) := hS.old h3 (Nat.ne_of_lt (heap_lt h3))
          have h4 : w34.heap[g4]? = some (.cells (numC R2.val) 43 (0, 0)) := hS.old h4 (Nat.ne_of_lt (heap_lt h4))
          have h5 := xh5
          have hBw34 : Hid (Below w.heap.size w w34) := Lib.hid (hBw19.out.trans (hS.below (by omega) hBw19.out.size))
          clear hS
          go_wp2_with fail
          go_meet
          exact ⟨w21.heap.size, rfl, Lib.hid (show w19.heap.size ≤ w21.heap.size by omega), Lib.hid h5, Lib.hid h1, Lib.hid h2, Lib.hid h3, Lib.hid h4, Lib.hid hBw34.out, Lib.hid (show w19.heap.size ≤ w34.heap.size by omega)⟩
      · intro K hK
        refine ready_run rfl (some 5) rfl (.pointer (some ⟨w20.heap.size, 0, none⟩)) (w20.alloc (.cells zL 22)) (by go_simp; try rfl) ?_
        simp only [Act.put, sia, sc0, scs]
        obtain ⟨w36, ea⟩ : ∃ u : World, u = w20.alloc (.cells zL 22) := ⟨_, rfl⟩
        rw [← ea]
        have hS := hS.alloc (.cells zL 22)
        rw [← ea] at hS
        have hz36 : w20.heap.size + 1 ≤ w36.heap.size := by rw [ea, alloc_size]; omega
        have hy36 : w19.heap.size ≤ w20.heap.size := hSz
        have xh5 : w36.heap[w20.heap.size]? = some (.cells (zL) 22 (0, 0)) := by rw [ea]; exact heap_new_at _ _ _ rfl
        clear ea
        refine hK.out _ _ hS ?_
        clear hK K
        intro _
        have hSz := hS.size
        refine wpAnyH_ready (rs := [3]) (by kernel_rfl) (by simp) ?_
        refine (AllReadyH.cons rfl ?_ AllReadyH.nil)
        intro K hK
        refine ready_call rfl (some 17) rfl 46 #[] (by go_simp) ?_
        refine (prime_any _).mono ?_
        rintro e w37 ⟨rfl, hC⟩
        refine ⟨_, rfl, ?_⟩
        simp only [Act.put, sia, sc0, scs]
        have xh5 : w37.heap[w20.heap.size]? = some (.cells (zL) 22 (0, 0)) := (heap_call hC xh5)
        have hS := hS.call hC
        have hz37 := hC.size
        clear hC
        refine hK.out _ _ hS ?_
        clear hK K
        intro _
        have hSz := hS.size
        refine wpAnyH_ready (rs := [4]) (by kernel_rfl) (by simp) ?_
        refine (AllReadyH.cons rfl ?_ AllReadyH.nil)
        intro K hK
        refine ready_call rfl (some 18) rfl 45 #[.agg (numC Y.val), .agg (numC R1.val), .agg (numC pF)] (by go_simp) ?_
        refine (stimes_ff Y R1 R3 HR3 _).mono ?_
        rintro e w38 ⟨rfl, hC⟩
        refine ⟨_, rfl, ?_⟩
        simp only [Act.put, sia, sc0, scs]
        have xh5 : w38.heap[w20.heap.size]? = some (.cells (zL) 22 (0, 0)) := (heap_call hC xh5)
        have hS := hS.call hC
        have hz38 := hC.size
        clear hC
        refine hK.out _ _ hS ?_
        clear hK K
        intro _
        have hSz := hS.size
        refine wpAnyH_ready (rs := [5]) (by kernel_rfl) (by simp) ?_
        refine (AllReadyH.cons rfl ?_ AllReadyH.nil)
        intro K hK
        refine ready_call rfl (some 19) rfl 67 #[.agg (numC R3.val)] (by go_simp) ?_
        refine (octets_any R3.val _).mono ?_
        rintro e w39 ⟨rfl, hC⟩
        refine ⟨_, rfl, ?_⟩
        simp only [Act.put, sia, sc0, scs]
        have xh5 : w39.heap[w20.heap.size]? = some (.cells (zL) 22 (0, 0)) := (heap_call hC xh5)
        have hS := hS.call hC
        have hz39 := hC.size
        clear hC
        refine hK.out _ _ hS ?_
        clear hK K
        intro _
        have hSz := hS.size
        refine wpAnyH_ready (rs := [7]) (by kernel_rfl) (by simp) ?_
        refine (AllReadyH.cons rfl ?_ AllReadyH.nil)
        intro K hK
        rw [if_pos (by rfl)]
        refine wp_store_row 22 _ _ rfl (w20.heap.size) (arrC (R3.val)) rfl rfl 22 (zL) xh5 (info32_of (arrC (R3.val)) (arrC_size _)) (zL_size.trans (arrC_size _).symm) (arrC_one _) ?_
        refine put_at (none) rfl ?_
        simp only [Act.put, sia, sc0, scs]
        have xh5 : (w39.setRow (w20.heap.size) (arrC (R3.val))).heap[w20.heap.size]? = some (.cells (arrC (R3.val)) 22 (0, 0)) := (setRow_heap _ _ _ _ _ _ xh5)
        have hS := hS.storeNew (arrC (R3.val)) (show w19.heap.size ≤ w20.heap.size by omega)
        generalize w39.setRow (w20.heap.size) (arrC (R3.val)) = w40 at *
        refine hK.out _ _ hS ?_
        clear hK K
        intro _
        have hSz := hS.size
        refine wpAnyH_done (by kernel_rfl) ?_ _
        refine NoPanic.normal ?_
        have hsz := hS.size
        have h1 : w40.heap[w.heap.size]? = some (.cells (ptC (X.val) (Y.val) (Z.val)) 45 (0, 0)) := hS.old h1 (Nat.ne_of_lt (heap_lt h1))
        have h2 : w40.heap[w.heap.size + 1]? = some (.cells (zL) 22 (0, 0)) := hS.old h2 (Nat.ne_of_lt (heap_lt h2))
        have h3 : w40.heap[w1.heap.size]? = some (.cells (numC R1.val) 43 (0, 0)) := hS.old h3 (Nat.ne_of_lt (heap_lt h3))
        have h4 : w40.heap[g4]? = some (.cells (numC R2.val) 43 (0, 0)) := hS.old h4 (Nat.ne_of_lt (heap_lt h4))
        have h5 := xh5
        have hBw40 : Hid (Below w.heap.size w w40) := Lib.hid (hBw19.out.trans (hS.below (by omega) hBw19.out.size))
        clear hS
        go_wp2_with fail
        go_meet
        exact ⟨w20.heap.size, rfl, Lib.hid (show w19.heap.size ≤ w20.heap.size by omega), Lib.hid h5, Lib.hid h1, Lib.hid h2, Lib.hid h3, Lib.hid h4, Lib.hid hBw40.out, Lib.hid (show w19.heap.size ≤ w40.heap.size by omega)⟩
    case rest =>
      obtain ⟨g5, rfl, Hg5, Hh5, Hh1, Hh2, Hh3, Hh4, hBw42, Hsz42⟩ := hcut
      obtain ⟨w42, rfl⟩ : ∃ u : World, u = wc := ⟨_, rfl⟩
      have hgl5 := Hg5.out
      have h5 := Hh5.out
      have hgu5 := heap_lt h5
      have h1 := Hh1.out
      have h2 := Hh2.out
      have h3 := Hh3.out
      have h4 := Hh4.out
      have hsz42 := Hsz42.out
      by_cases hs : P.x.val % 2 = 1
      · have hn : Hid (R2.val % 2 = 1) := Lib.hid (by rw [ex.out]; exact hs)
        have eN : encN P = R3.val + 57896044618658097711785492504343953926634992332820282019728792003956564819968 := by unfold encN; rw [ey.out, if_pos hs]
        clear hs
        go_wp2_with (first
          | ((with_reducible refine at_dst 20 ?_); refine wpList_load_row rfl 43 _ rfl (g4) rfl 43 (numC R2.val) (0, 0) _ h4 underNum rfl (infoNum_of (numC R2.val) (numC_size _)) ?_))
        refine (negative_true R2.val hn _).mono ?_
        rintro e w43 ⟨rfl, hC43⟩
        have hs43 : w42.heap.size ≤ w43.heap.size := by have := hC43.size; (try simp only [alloc_size, setRow_size] at this); omega
        replace h1 : w43.heap[w.heap.size]? = some (.cells (ptC (X.val) (Y.val) (Z.val)) 45 (0, 0)) := (heap_call hC43 h1)
        replace h2 : w43.heap[w.heap.size + 1]? = some (.cells (zL) 22 (0, 0)) := (heap_call hC43 h2)
        replace h3 : w43.heap[w1.heap.size]? = some (.cells (numC R1.val) 43 (0, 0)) := (heap_call hC43 h3)
        replace h4 : w43.heap[g4]? = some (.cells (numC R2.val) 43 (0, 0)) := (heap_call hC43 h4)
        replace h5 : w43.heap[g5]? = some (.cells (arrC (R3.val)) 22 (0, 0)) := (heap_call hC43 h5)
        have hBw43 : Hid (Below w.heap.size w w43) := Lib.hid (below_call hBw42.out hC43)
        clear hC43
        have r5 := Row.ofArr h5
        have c31 := r5.cell (i := 31) (by omega)
        have f31 := r5.frozen (i := 31) (by omega)
        simp only [Nat.zero_add] at c31 f31
        unfold byV at c31
        have hB := top_lt R3.val lY
        have e9 := arr_top R3.val lY
        rw [← eN] at e9
        obtain ⟨B31, qB⟩ : ∃ u, u = byteN R3.val 31 := ⟨_, rfl⟩
        rw [← qB] at c31 hB e9
        have ew : ((B31 + 128 : Nat) : Int) = (B31 : Int) + 128 := by omega
        rw [ew] at e9
        clear qB r5 ew
        go_upto_region 6 with fail
        try simp only [Act.put]
        refine wp_named ?_
        intro w44 ew44
        have hs44 : w43.heap.size ≤ w44.heap.size := by rw [ew44]; simp [World.setCell]
        replace h1 : w44.heap[w.heap.size]? = some (.cells (ptC (X.val) (Y.val) (Z.val)) 45 (0, 0)) := by rw [ew44]; exact (setCell_other _ _ _ _ (by omega)).trans h1
        replace h2 : w44.heap[w.heap.size + 1]? = some (.cells (zL) 22 (0, 0)) := by rw [ew44]; exact (setCell_other _ _ _ _ (by omega)).trans h2
        replace h3 : w44.heap[w1.heap.size]? = some (.cells (numC R1.val) 43 (0, 0)) := by rw [ew44]; exact (setCell_other _ _ _ _ (by omega)).trans h3
        replace h4 : w44.heap[g4]? = some (.cells (numC R2.val) 43 (0, 0)) := by rw [ew44]; exact (setCell_other _ _ _ _ (by omega)).trans h4
        replace h5 : w44.heap[g5]? = some (.cells (arrC (encN P)) 22 (0, 0)) := by rw [ew44, ← e9]; exact setCell_blk h5 31 _
        have hBw44 : Hid (Below w.heap.size w w44) := Lib.hid (by rw [ew44]; exact below_setCell hBw43.out (by omega) _ _)
        clear ew44
        go_wp2_with (first
          | ((with_reducible refine at_dst 26 ?_); refine wpList_load_row rfl 22 _ rfl (g5) rfl 22 (arrC (encN P)) (0, 0) _ h5 under32 rfl (info32_of (arrC (encN P)) (arrC_size _)) ?_)
          | ((with_reducible refine at_store 2 ?_); refine wpList_store_row rfl 22 _ _ rfl (w.heap.size + 1) (arrC (encN P)) rfl rfl 22 (zL) h2 (info32_of (arrC (encN P)) (arrC_size _)) (zL_size.trans (arrC_size _).symm) (arrC_one _) ?_))
        refine bodyPost_ret (results_cell_row rfl _ _ (w.heap.size + 1) 22 (arrC (encN P)) (0, 0) _ rfl (setRow_heap _ _ _ _ _ _ h2) under32 rfl (info32_of (arrC (encN P)) (arrC_size _))) rfl ⟨rfl, (below_setRow hBw44.out (by omega) _)⟩
      · have hn : Hid (¬ R2.val % 2 = 1) := Lib.hid (by rw [ex.out]; exact hs)
        have eN : encN P = R3.val := by unfold encN; rw [ey.out, if_neg hs, Nat.add_zero]
        clear hs
        go_wp2_with (first
          | ((with_reducible refine at_dst 20 ?_); refine wpList_load_row rfl 43 _ rfl (g4) rfl 43 (numC R2.val) (0, 0) _ h4 underNum rfl (infoNum_of (numC R2.val) (numC_size _)) ?_))
        refine (negative_false R2.val hn _).mono ?_
        rintro e w43 ⟨rfl, hC43⟩
        have hs43 : w42.heap.size ≤ w43.heap.size := by have := hC43.size; (try simp only [alloc_size, setRow_size] at this); omega
        replace h1 : w43.heap[w.heap.size]? = some (.cells (ptC (X.val) (Y.val) (Z.val)) 45 (0, 0)) := (heap_call hC43 h1)
        replace h2 : w43.heap[w.heap.size + 1]? = some (.cells (zL) 22 (0, 0)) := (heap_call hC43 h2)
        replace h3 : w43.heap[w1.heap.size]? = some (.cells (numC R1.val) 43 (0, 0)) := (heap_call hC43 h3)
        replace h4 : w43.heap[g4]? = some (.cells (numC R2.val) 43 (0, 0)) := (heap_call hC43 h4)
        replace h5 : w43.heap[g5]? = some (.cells (arrC (R3.val)) 22 (0, 0)) := (heap_call hC43 h5)
        have hBw43 : Hid (Below w.heap.size w w43) := Lib.hid (below_call hBw42.out hC43)
        clear hC43
        go_wp2_with (first
          | ((with_reducible refine at_dst 26 ?_); refine wpList_load_row rfl 22 _ rfl (g5) rfl 22 (arrC (R3.val)) (0, 0) _ h5 under32 rfl (info32_of (arrC (R3.val)) (arrC_size _)) ?_)
          | ((with_reducible refine at_store 2 ?_); refine wpList_store_row rfl 22 _ _ rfl (w.heap.size + 1) (arrC (R3.val)) rfl rfl 22 (zL) h2 (info32_of (arrC (R3.val)) (arrC_size _)) (zL_size.trans (arrC_size _).symm) (arrC_one _) ?_))
        refine bodyPost_ret (results_cell_row rfl _ _ (w.heap.size + 1) 22 (arrC (R3.val)) (0, 0) _ rfl (setRow_heap _ _ _ _ _ _ h2) under32 rfl (info32_of (arrC (R3.val)) (arrC_size _))) rfl ⟨by rw [eN], (below_setRow hBw43.out (by omega) _)⟩
end

end Go.Proofs.YtcenlinpbpbpoaaDoor
