/- FnFieldHighBit: the walk. -/
import Derived.Test.YtfkodiefldljgaaLK
namespace Go.Proofs.Ytfkodiefldljgaa
open Go.RowKit

theorem xor128 (B : Nat) (hB : B < 256) : bits .xor .u8 (B : Int) 128 = (((B + 128) % 256 : Nat) : Int) := by
  have h1 : (BitVec.ofInt 8 (B : Int)).toNat = B := by
    rw [BitVec.ofInt_natCast, BitVec.toNat_ofNat]; exact Nat.mod_eq_of_lt (by omega)
  show IntKind.u8.wrap ((BitVec.ofInt 8 (B : Int) ^^^ BitVec.ofInt 8 128).toNat : Int) = _
  rw [BitVec.toNat_xor, h1, show (BitVec.ofInt 8 128).toNat = 128 from rfl, IntKind.wrap_u8]
  have e : B ^^^ 128 = (B + 128) % 256 := by
    have : ∀ b : Fin 256, (b.val ^^^ 128) = (b.val + 128) % 256 := by decide +kernel
    exact this ⟨B, hB⟩
  rw [e]; omega
/-- the highest bit the other way -/
def flipN (N : Nat) : Nat := (N + 57896044618658097711785492504343953926634992332820282019728792003956564819968) % 256 ^ 32
theorem flipN_val (N : Nat) (hN : N < 256 ^ 32) : valN (flipN N) = valN N := by
  have h : flipN N % 57896044618658097711785492504343953926634992332820282019728792003956564819968 = N % 57896044618658097711785492504343953926634992332820282019728792003956564819968 := by
    unfold flipN; omega
  unfold valN
  rw [h]
theorem flipN_byte (N i : Nat) (hN : N < 256 ^ 32) (hi : i < 32) : byV (flipN N) i = if i = 31 then .int .u8 (((byteN N 31 + 128) % 256 : Nat) : Int) else byV N i := by
  unfold byV
  by_cases e : i = 31
  · subst e
    have h : byteN (flipN N) 31 = (byteN N 31 + 128) % 256 := by unfold byteN flipN; omega
    rw [if_pos rfl, h]
  · have h : flipN N % 256 ^ 31 = N % 256 ^ 31 := by unfold flipN; omega
    have h2 : byteN (flipN N) i = byteN N i := by rw [← byteN_mod _ 31 i (by omega), h, byteN_mod _ 31 i (by omega)]
    rw [if_neg e, h2]

set_option maxHeartbeats 2000000 in
theorem HighBit_raw (X R : Nat) (hX : X < 256 ^ 32) (HR : Hid (R = valN X)) (w : World) :
    Calls Try.prog 6 #[.agg (arrC X)] w fun e w' => e = .returned (.bool true) ∧ Below w.heap.size w w' := by
  have lR : R < 256 ^ 32 := by rw [HR.out]; exact lt32p _ (valN_lt _)
  go_enter Try.func6, Try.ntmps6
  go_upto_region 2 with (first
    | ((with_reducible refine at_dst 8 ?_); refine wpList_load_row rfl 22 _ rfl (w.heap.size) rfl 22 (arrC X) (0, 0) _ (heap_new_at _ _ _ rfl) under32 rfl (info32_of (arrC X) (arrC_size _)) ?_)
    | ((with_reducible refine at_store 3 ?_); refine wpList_store_row rfl 22 _ _ rfl (w.heap.size + 1) (arrC X) rfl rfl 22 (zL) (heap_new_at _ _ _ (by simp only [alloc_size, setRow_size])) (info32_of (arrC X) (arrC_size _)) (zL_size.trans (arrC_size _).symm) (arrC_one _) ?_))
  refine wp_named ?_
  intro w1 ew1
  have hs1 : w.heap.size + 1 + 1 ≤ w1.heap.size := by rw [ew1]; (try simp only [alloc_size, setRow_size]); omega
  have h1 : w1.heap[w.heap.size]? = some (.cells (arrC X) 22 (0, 0)) := by rw [ew1]; exact (heap_row _ (by omega) (heap_old _ (heap_new_at _ _ _ rfl)))
  have h3 : w1.heap[w.heap.size + 1]? = some (.cells (arrC X) 22 (0, 0)) := by rw [ew1]; exact (setRow_heap _ _ _ _ _ _ (heap_new_at _ _ _ (by simp only [alloc_size, setRow_size])))
  have hBw1 : Hid (Below w.heap.size w w1) := Lib.hid (by rw [ew1]; exact (below_setRow (below_alloc (below_alloc (Below.refl _ w) _) _) (by omega) _))
  clear ew1
  have r3 := Row.ofArr h3
  have c31 := r3.cell (i := 31) (by omega)
  have f31 := r3.frozen (i := 31) (by omega)
  rw [Nat.zero_add] at c31 f31
  unfold byV at c31
  have hxor := xor128 _ (byteN_lt X 31)
  have hY := Lib.hid (fun i hi => flipN_byte X i hX hi)
  obtain ⟨Y, qY⟩ : ∃ u : Nat, u = flipN X := ⟨_, rfl⟩
  rw [← qY] at hY
  have HY : Hid (R = valN Y) := Lib.hid (by rw [HR.out, qY, flipN_val X hX])
  have HZ : Hid ((1 : Int) = if valN X = valN Y then 1 else 0) := Lib.hid (by rw [← HR.out, ← HY.out, if_pos rfl])
  clear qY
  generalize (byteN X 31 + 128) % 256 = D at *
  generalize byteN X 31 = B at *
  have Hr3 := Lib.hid r3; clear r3
  go_wp2
  refine wp_named ?_
  intro w2 e2
  have hW : Wr w1 w2 (w.heap.size + 1) 0 32 (byV Y) := by rw [e2]; exact ((Wr.start Hr3.out).set 31 (.int .u8 (D : Int)) (by omega)).congr fun i hi => hY.out i hi
  have h3 : w2.heap[w.heap.size + 1]? = some (.cells (arrC Y) 22 (0, 0)) := hW.arr h3 (arrC_size X)
  have h1 : w2.heap[w.heap.size]? = some (.cells (arrC X) 22 (0, 0)) := (hW.other _ (by omega) (by omega)).trans h1
  have hsw := hW.size
  have hBw2 : Hid (Below w.heap.size w w2) := Lib.hid (hBw1.out.trans (hW.below (by omega) hBw1.out.size))
  clear hW e2 c31 f31 hxor hY Hr3
  go_wp2_with fail
  refine wp_named ?_
  intro w3 ew3
  have hs3 : w2.heap.size ≤ w3.heap.size := by rw [ew3]; (try simp only [alloc_size, setRow_size]); omega
  have h1 : w3.heap[w.heap.size]? = some (.cells (arrC X) 22 (0, 0)) := by rw [ew3]; exact h1
  have h3 : w3.heap[w.heap.size + 1]? = some (.cells (arrC Y) 22 (0, 0)) := by rw [ew3]; exact h3
  have hBw3 : Hid (Below w.heap.size w w3) := Lib.hid (by rw [ew3]; exact hBw2.out)
  clear ew3
  go_cut [4] (fun s4 wx => ∃ g4 : Nat, s4 = .pointer (some ⟨g4, 0, none⟩) ∧ Hid (w3.heap.size ≤ g4) ∧ Hid (wx.heap[g4]? = some (.cells (arrC R) 22 (0, 0))) ∧ Hid (wx.heap[w.heap.size]? = some (.cells (arrC X) 22 (0, 0))) ∧ Hid (wx.heap[w.heap.size + 1]? = some (.cells (arrC Y) 22 (0, 0))) ∧ Hid (Below w.heap.size w wx) ∧ Hid (w3.heap.size ≤ wx.heap.size))
  case first =>
    refine wp_region_noPanic ?_
    refine wp_region_held_drew (S := Keep (w3.heap.size) w3) (by kernel_rfl) (Keep.start _ _) ?_
    intro hS
    obtain ⟨w4, ed⟩ : ∃ u : World, u = w3.drew := ⟨_, rfl⟩
    rw [← ed] at hS ⊢
    have xh1 : w4.heap[w.heap.size]? = some (.cells (arrC X) 22 (0, 0)) := by rw [ed]; exact h1
    have xh3 : w4.heap[w.heap.size + 1]? = some (.cells (arrC Y) 22 (0, 0)) := by rw [ed]; exact h3
    clear ed
    have hSz := hS.size
    clear xh1
    clear xh3
    refine takeAt (i := 1) (v := .agg (arrC X)) rfl (some 15) rfl (by kernel_rfl) (by kernel_rfl) (by kernel_rfl) (fun _ _ _ h => h) (take_row rfl _ _ rfl (w.heap.size) rfl _ _ _ h1 (Nat.ne_of_lt (heap_lt h1)) under32 rfl (info32_of (arrC X) (arrC_size _))) hS ?_
    simp only [Act.put, List.setIfInBounds_toArray, List.set_cons_zero, List.set_cons_succ]
    refine wpAnyH_ready (rs := [0, 7]) (by kernel_rfl) (by simp) ?_
    refine (AllReadyH.cons rfl ?_ (AllReadyH.cons rfl ?_ AllReadyH.nil))
    · intro K hK
      refine ready_call rfl (some 14) rfl 13 #[] (by go_simp) ?_
      refine (zero_v _).mono ?_
      rintro e w5 ⟨rfl, hC⟩
      refine ⟨_, rfl, ?_⟩
      simp only [Act.put, List.setIfInBounds_toArray, List.set_cons_zero, List.set_cons_succ]
      have hS := hS.call hC
      have hz5 := hC.size
      clear hC
      refine hK.out _ _ hS ?_
      clear hK K
      intro _
      have hSz := hS.size
      refine wpAnyH_ready (rs := [2, 7]) (by kernel_rfl) (by simp) ?_
      refine (AllReadyH.cons rfl ?_ (AllReadyH.cons rfl ?_ AllReadyH.nil))
      · intro K hK
        refine ready_call rfl (some 16) rfl 17 #[.agg (arrC X)] (by go_simp) ?_
        refine (slice_any X _).mono ?_
        rintro e w6 ⟨b1, c1, rfl, hcb1, hlb1, hC, xhr1⟩
        refine ⟨_, rfl, ?_⟩
        simp only [Act.put, List.setIfInBounds_toArray, List.set_cons_zero, List.set_cons_succ]
        have hS := hS.call hC
        have hz6 := hC.size
        clear hC
        refine hK.out _ _ hS ?_
        clear hK K
        intro _
        have hSz := hS.size
        refine wpAnyH_ready (rs := [3, 7]) (by kernel_rfl) (by simp) ?_
        refine (AllReadyH.cons rfl ?_ (AllReadyH.cons rfl ?_ AllReadyH.nil))
        · intro K hK
          refine ready_call rfl (some 17) rfl 16 #[.agg (arrC 0), .slice (some ⟨b1, 0, none⟩) 32 c1] (by go_simp) ?_
          refine (FieldSetBytes_to 0 X b1 c1 hcb1 R HR _ xhr1).mono ?_
          rintro e w7 ⟨rfl, hC⟩
          refine ⟨_, rfl, ?_⟩
          simp only [Act.put, List.setIfInBounds_toArray, List.set_cons_zero, List.set_cons_succ]
          have xhr1 : Row w7 b1 0 32 (byV X) := (Row.below_all xhr1 hC)
          have hS := hS.call hC
          have hz7 := hC.size
          clear hC
          refine hK.out _ _ hS ?_
          clear hK K
          intro _
          have hSz := hS.size
          refine takeAt (i := 4) (v := .tuple #[.agg (arrC R), .bool true]) rfl (some 13) rfl (by kernel_rfl) (by kernel_rfl) (by kernel_rfl) (fun _ _ _ h => h) (take_run rfl (fun _ _ => by go_simp)) hS ?_
          simp only [Act.put, List.setIfInBounds_toArray, List.set_cons_zero, List.set_cons_succ]
          refine takeAt (i := 5) (v := .agg (arrC R)) rfl (some 18) rfl (by kernel_rfl) (by kernel_rfl) (by kernel_rfl) (fun _ _ _ h => h) (take_run rfl (fun _ _ => by go_simp)) hS ?_
          simp only [Act.put, List.setIfInBounds_toArray, List.set_cons_zero, List.set_cons_succ]
          refine takeAt (i := 6) (v := .bool true) rfl (some 19) rfl (by kernel_rfl) (by kernel_rfl) (by kernel_rfl) (fun _ _ _ h => h) (take_run rfl (fun _ _ => by go_simp)) hS ?_
          simp only [Act.put, List.setIfInBounds_toArray, List.set_cons_zero, List.set_cons_succ]
          refine wpAnyH_ready (rs := [7]) (by kernel_rfl) (by simp) ?_
          refine (AllReadyH.cons rfl ?_ AllReadyH.nil)
          intro K hK
          refine ready_run rfl (some 4) rfl (.pointer (some ⟨w7.heap.size, 0, none⟩)) (w7.alloc (.cells zL 22)) (by go_simp; try rfl) ?_
          simp only [Act.put, List.setIfInBounds_toArray, List.set_cons_zero, List.set_cons_succ]
          obtain ⟨w8, ea⟩ : ∃ u : World, u = w7.alloc (.cells zL 22) := ⟨_, rfl⟩
          rw [← ea]
          have hS := hS.alloc (.cells zL 22)
          rw [← ea] at hS
          have hz8 : w7.heap.size + 1 ≤ w8.heap.size := by rw [ea, alloc_size]; omega
          have hy8 : w3.heap.size ≤ w7.heap.size := hSz
          have xh4 : w8.heap[w7.heap.size]? = some (.cells (zL) 22 (0, 0)) := by rw [ea]; exact heap_new_at _ _ _ rfl
          clear ea
          refine hK.out _ _ hS ?_
          clear hK K
          intro _
          have hSz := hS.size
          refine wpAnyH_ready (rs := [8]) (by kernel_rfl) (by simp) ?_
          refine (AllReadyH.cons rfl ?_ AllReadyH.nil)
          intro K hK
          rw [if_pos (by rfl)]
          refine wp_store_row 22 _ _ rfl (w7.heap.size) (arrC R) rfl rfl 22 (zL) xh4 (info32_of (arrC R) (arrC_size _)) (zL_size.trans (arrC_size _).symm) (arrC_one _) ?_
          refine put_at (none) rfl ?_
          simp only [Act.put, List.setIfInBounds_toArray, List.set_cons_zero, List.set_cons_succ]
          have xh4 : (w8.setRow (w7.heap.size) (arrC R)).heap[w7.heap.size]? = some (.cells (arrC R) 22 (0, 0)) := (setRow_heap _ _ _ _ _ _ xh4)
          have hS := hS.storeNew (arrC R) (show w3.heap.size ≤ w7.heap.size by omega)
          generalize w8.setRow (w7.heap.size) (arrC R) = w9 at *
          refine hK.out _ _ hS ?_
          clear hK K
          intro _
          have hSz := hS.size
          refine takeAt (i := 9) (v := .bool true) rfl (some 5) rfl (by kernel_rfl) (by kernel_rfl) (by kernel_rfl) (fun _ _ _ h => h) (take_run rfl (fun _ _ => by go_simp)) hS ?_
          simp only [Act.put, List.setIfInBounds_toArray, List.set_cons_zero, List.set_cons_succ]
          refine wpAnyH_done (by kernel_rfl) ?_ _
          refine NoPanic.normal ?_
          have hsz := hS.size
          have h1 : w9.heap[w.heap.size]? = some (.cells (arrC X) 22 (0, 0)) := hS.old h1 (Nat.ne_of_lt (heap_lt h1))
          have h3 : w9.heap[w.heap.size + 1]? = some (.cells (arrC Y) 22 (0, 0)) := hS.old h3 (Nat.ne_of_lt (heap_lt h3))
          have h4 := xh4
          have hBw9 : Hid (Below w.heap.size w w9) := Lib.hid (hBw3.out.trans (hS.below (by omega) hBw3.out.size))
          clear hS
          go_wp2_with fail
          go_meet
          exact ⟨w7.heap.size, rfl, Lib.hid (show w3.heap.size ≤ w7.heap.size by omega), Lib.hid h4, Lib.hid h1, Lib.hid h3, Lib.hid hBw9.out, Lib.hid (show w3.heap.size ≤ w9.heap.size by omega)⟩
        · intro K hK
          refine ready_run rfl (some 4) rfl (.pointer (some ⟨w6.heap.size, 0, none⟩)) (w6.alloc (.cells zL 22)) (by go_simp; try rfl) ?_
          simp only [Act.put, List.setIfInBounds_toArray, List.set_cons_zero, List.set_cons_succ]
          obtain ⟨w11, ea⟩ : ∃ u : World, u = w6.alloc (.cells zL 22) := ⟨_, rfl⟩
          rw [← ea]
          have xhr1 : Row w11 b1 0 32 (byV X) := by rw [ea]; exact (Row.alloc xhr1 _)
          have hS := hS.alloc (.cells zL 22)
          rw [← ea] at hS
          have hz11 : w6.heap.size + 1 ≤ w11.heap.size := by rw [ea, alloc_size]; omega
          have hy11 : w3.heap.size ≤ w6.heap.size := hSz
          have xh4 : w11.heap[w6.heap.size]? = some (.cells (zL) 22 (0, 0)) := by rw [ea]; exact heap_new_at _ _ _ rfl
          clear ea
          refine hK.out _ _ hS ?_
          clear hK K
          intro _
          have hSz := hS.size
          refine wpAnyH_ready (rs := [3]) (by kernel_rfl) (by simp) ?_
          refine (AllReadyH.cons rfl ?_ AllReadyH.nil)
          intro K hK
          refine ready_call rfl (some 17) rfl 16 #[.agg (arrC 0), .slice (some ⟨b1, 0, none⟩) 32 c1] (by go_simp) ?_
          refine (FieldSetBytes_to 0 X b1 c1 hcb1 R HR _ xhr1).mono ?_
          rintro e w12 ⟨rfl, hC⟩
          refine ⟨_, rfl, ?_⟩
          simp only [Act.put, List.setIfInBounds_toArray, List.set_cons_zero, List.set_cons_succ]
          have xhr1 : Row w12 b1 0 32 (byV X) := (Row.below_all xhr1 hC)
          have xh4 : w12.heap[w6.heap.size]? = some (.cells (zL) 22 (0, 0)) := (heap_call hC xh4)
          have hS := hS.call hC
          have hz12 := hC.size
          clear hC
          refine hK.out _ _ hS ?_
          clear hK K
          intro _
          have hSz := hS.size
          refine takeAt (i := 4) (v := .tuple #[.agg (arrC R), .bool true]) rfl (some 13) rfl (by kernel_rfl) (by kernel_rfl) (by kernel_rfl) (fun _ _ _ h => h) (take_run rfl (fun _ _ => by go_simp)) hS ?_
          simp only [Act.put, List.setIfInBounds_toArray, List.set_cons_zero, List.set_cons_succ]
          refine takeAt (i := 5) (v := .agg (arrC R)) rfl (some 18) rfl (by kernel_rfl) (by kernel_rfl) (by kernel_rfl) (fun _ _ _ h => h) (take_run rfl (fun _ _ => by go_simp)) hS ?_
          simp only [Act.put, List.setIfInBounds_toArray, List.set_cons_zero, List.set_cons_succ]
          refine takeAt (i := 6) (v := .bool true) rfl (some 19) rfl (by kernel_rfl) (by kernel_rfl) (by kernel_rfl) (fun _ _ _ h => h) (take_run rfl (fun _ _ => by go_simp)) hS ?_
          simp only [Act.put, List.setIfInBounds_toArray, List.set_cons_zero, List.set_cons_succ]
          refine wpAnyH_ready (rs := [8]) (by kernel_rfl) (by simp) ?_
          refine (AllReadyH.cons rfl ?_ AllReadyH.nil)
          intro K hK
          rw [if_pos (by rfl)]
          refine wp_store_row 22 _ _ rfl (w6.heap.size) (arrC R) rfl rfl 22 (zL) xh4 (info32_of (arrC R) (arrC_size _)) (zL_size.trans (arrC_size _).symm) (arrC_one _) ?_
          refine put_at (none) rfl ?_
          simp only [Act.put, List.setIfInBounds_toArray, List.set_cons_zero, List.set_cons_succ]
          have xh4 : (w12.setRow (w6.heap.size) (arrC R)).heap[w6.heap.size]? = some (.cells (arrC R) 22 (0, 0)) := (setRow_heap _ _ _ _ _ _ xh4)
          have hS := hS.storeNew (arrC R) (show w3.heap.size ≤ w6.heap.size by omega)
          generalize w12.setRow (w6.heap.size) (arrC R) = w13 at *
          refine hK.out _ _ hS ?_
          clear hK K
          intro _
          have hSz := hS.size
          refine takeAt (i := 9) (v := .bool true) rfl (some 5) rfl (by kernel_rfl) (by kernel_rfl) (by kernel_rfl) (fun _ _ _ h => h) (take_run rfl (fun _ _ => by go_simp)) hS ?_
          simp only [Act.put, List.setIfInBounds_toArray, List.set_cons_zero, List.set_cons_succ]
          refine wpAnyH_done (by kernel_rfl) ?_ _
          refine NoPanic.normal ?_
          have hsz := hS.size
          have h1 : w13.heap[w.heap.size]? = some (.cells (arrC X) 22 (0, 0)) := hS.old h1 (Nat.ne_of_lt (heap_lt h1))
          have h3 : w13.heap[w.heap.size + 1]? = some (.cells (arrC Y) 22 (0, 0)) := hS.old h3 (Nat.ne_of_lt (heap_lt h3))
          have h4 := xh4
          have hBw13 : Hid (Below w.heap.size w w13) := Lib.hid (hBw3.out.trans (hS.below (by omega) hBw3.out.size))
          clear hS
          go_wp2_with fail
          go_meet
          exact ⟨w6.heap.size, rfl, Lib.hid (show w3.heap.size ≤ w6.heap.size by omega), Lib.hid h4, Lib.hid h1, Lib.hid h3, Lib.hid hBw13.out, Lib.hid (show w3.heap.size ≤ w13.heap.size by omega)⟩
      · intro K hK
        refine ready_run rfl (some 4) rfl (.pointer (some ⟨w5.heap.size, 0, none⟩)) (w5.alloc (.cells zL 22)) (by go_simp; try rfl) ?_
        simp only [Act.put, List.setIfInBounds_toArray, List.set_cons_zero, List.set_cons_succ]
        obtain ⟨w15, ea⟩ : ∃ u : World, u = w5.alloc (.cells zL 22) := ⟨_, rfl⟩
        rw [← ea]
        have hS := hS.alloc (.cells zL 22)
        rw [← ea] at hS
        have hz15 : w5.heap.size + 1 ≤ w15.heap.size := by rw [ea, alloc_size]; omega
        have hy15 : w3.heap.size ≤ w5.heap.size := hSz
        have xh4 : w15.heap[w5.heap.size]? = some (.cells (zL) 22 (0, 0)) := by rw [ea]; exact heap_new_at _ _ _ rfl
        clear ea
        refine hK.out _ _ hS ?_
        clear hK K
        intro _
        have hSz := hS.size
        refine wpAnyH_ready (rs := [2]) (by kernel_rfl) (by simp) ?_
        refine (AllReadyH.cons rfl ?_ AllReadyH.nil)
        intro K hK
        refine ready_call rfl (some 16) rfl 17 #[.agg (arrC X)] (by go_simp) ?_
        refine (slice_any X _).mono ?_
        rintro e w16 ⟨b1, c1, rfl, hcb1, hlb1, hC, xhr1⟩
        refine ⟨_, rfl, ?_⟩
        simp only [Act.put, List.setIfInBounds_toArray, List.set_cons_zero, List.set_cons_succ]
        have xh4 : w16.heap[w5.heap.size]? = some (.cells (zL) 22 (0, 0)) := (heap_call hC xh4)
        have hS := hS.call hC
        have hz16 := hC.size
        clear hC
        refine hK.out _ _ hS ?_
        clear hK K
        intro _
        have hSz := hS.size
        refine wpAnyH_ready (rs := [3]) (by kernel_rfl) (by simp) ?_
        refine (AllReadyH.cons rfl ?_ AllReadyH.nil)
        intro K hK
        refine ready_call rfl (some 17) rfl 16 #[.agg (arrC 0), .slice (some ⟨b1, 0, none⟩) 32 c1] (by go_simp) ?_
        refine (FieldSetBytes_to 0 X b1 c1 hcb1 R HR _ xhr1).mono ?_
        rintro e w17 ⟨rfl, hC⟩
        refine ⟨_, rfl, ?_⟩
        simp only [Act.put, List.setIfInBounds_toArray, List.set_cons_zero, List.set_cons_succ]
        have xh4 : w17.heap[w5.heap.size]? = some (.cells (zL) 22 (0, 0)) := (heap_call hC xh4)
        have xhr1 : Row w17 b1 0 32 (byV X) := (Row.below_all xhr1 hC)
        have hS := hS.call hC
        have hz17 := hC.size
        clear hC
        refine hK.out _ _ hS ?_
        clear hK K
        intro _
        have hSz := hS.size
        refine takeAt (i := 4) (v := .tuple #[.agg (arrC R), .bool true]) rfl (some 13) rfl (by kernel_rfl) (by kernel_rfl) (by kernel_rfl) (fun _ _ _ h => h) (take_run rfl (fun _ _ => by go_simp)) hS ?_
        simp only [Act.put, List.setIfInBounds_toArray, List.set_cons_zero, List.set_cons_succ]
        refine takeAt (i := 5) (v := .agg (arrC R)) rfl (some 18) rfl (by kernel_rfl) (by kernel_rfl) (by kernel_rfl) (fun _ _ _ h => h) (take_run rfl (fun _ _ => by go_simp)) hS ?_
        simp only [Act.put, List.setIfInBounds_toArray, List.set_cons_zero, List.set_cons_succ]
        refine takeAt (i := 6) (v := .bool true) rfl (some 19) rfl (by kernel_rfl) (by kernel_rfl) (by kernel_rfl) (fun _ _ _ h => h) (take_run rfl (fun _ _ => by go_simp)) hS ?_
        simp only [Act.put, List.setIfInBounds_toArray, List.set_cons_zero, List.set_cons_succ]
        refine wpAnyH_ready (rs := [8]) (by kernel_rfl) (by simp) ?_
        refine (AllReadyH.cons rfl ?_ AllReadyH.nil)
        intro K hK
        rw [if_pos (by rfl)]
        refine wp_store_row 22 _ _ rfl (w5.heap.size) (arrC R) rfl rfl 22 (zL) xh4 (info32_of (arrC R) (arrC_size _)) (zL_size.trans (arrC_size _).symm) (arrC_one _) ?_
        refine put_at (none) rfl ?_
        simp only [Act.put, List.setIfInBounds_toArray, List.set_cons_zero, List.set_cons_succ]
        have xh4 : (w17.setRow (w5.heap.size) (arrC R)).heap[w5.heap.size]? = some (.cells (arrC R) 22 (0, 0)) := (setRow_heap _ _ _ _ _ _ xh4)
        have hS := hS.storeNew (arrC R) (show w3.heap.size ≤ w5.heap.size by omega)
        generalize w17.setRow (w5.heap.size) (arrC R) = w18 at *
        refine hK.out _ _ hS ?_
        clear hK K
        intro _
        have hSz := hS.size
        refine takeAt (i := 9) (v := .bool true) rfl (some 5) rfl (by kernel_rfl) (by kernel_rfl) (by kernel_rfl) (fun _ _ _ h => h) (take_run rfl (fun _ _ => by go_simp)) hS ?_
        simp only [Act.put, List.setIfInBounds_toArray, List.set_cons_zero, List.set_cons_succ]
        refine wpAnyH_done (by kernel_rfl) ?_ _
        refine NoPanic.normal ?_
        have hsz := hS.size
        have h1 : w18.heap[w.heap.size]? = some (.cells (arrC X) 22 (0, 0)) := hS.old h1 (Nat.ne_of_lt (heap_lt h1))
        have h3 : w18.heap[w.heap.size + 1]? = some (.cells (arrC Y) 22 (0, 0)) := hS.old h3 (Nat.ne_of_lt (heap_lt h3))
        have h4 := xh4
        have hBw18 : Hid (Below w.heap.size w w18) := Lib.hid (hBw3.out.trans (hS.below (by omega) hBw3.out.size))
        clear hS
        go_wp2_with fail
        go_meet
        exact ⟨w5.heap.size, rfl, Lib.hid (show w3.heap.size ≤ w5.heap.size by omega), Lib.hid h4, Lib.hid h1, Lib.hid h3, Lib.hid hBw18.out, Lib.hid (show w3.heap.size ≤ w18.heap.size by omega)⟩
    · intro K hK
      refine ready_run rfl (some 4) rfl (.pointer (some ⟨w4.heap.size, 0, none⟩)) (w4.alloc (.cells zL 22)) (by go_simp; try rfl) ?_
      simp only [Act.put, List.setIfInBounds_toArray, List.set_cons_zero, List.set_cons_succ]
      obtain ⟨w20, ea⟩ : ∃ u : World, u = w4.alloc (.cells zL 22) := ⟨_, rfl⟩
      rw [← ea]
      have hS := hS.alloc (.cells zL 22)
      rw [← ea] at hS
      have hz20 : w4.heap.size + 1 ≤ w20.heap.size := by rw [ea, alloc_size]; omega
      have hy20 : w3.heap.size ≤ w4.heap.size := hSz
      have xh4 : w20.heap[w4.heap.size]? = some (.cells (zL) 22 (0, 0)) := by rw [ea]; exact heap_new_at _ _ _ rfl
      clear ea
      refine hK.out _ _ hS ?_
      clear hK K
      intro _
      have hSz := hS.size
      refine wpAnyH_ready (rs := [0]) (by kernel_rfl) (by simp) ?_
      refine (AllReadyH.cons rfl ?_ AllReadyH.nil)
      intro K hK
      refine ready_call rfl (some 14) rfl 13 #[] (by go_simp) ?_
      refine (zero_v _).mono ?_
      rintro e w21 ⟨rfl, hC⟩
      refine ⟨_, rfl, ?_⟩
      simp only [Act.put, List.setIfInBounds_toArray, List.set_cons_zero, List.set_cons_succ]
      have xh4 : w21.heap[w4.heap.size]? = some (.cells (zL) 22 (0, 0)) := (heap_call hC xh4)
      have hS := hS.call hC
      have hz21 := hC.size
      clear hC
      refine hK.out _ _ hS ?_
      clear hK K
      intro _
      have hSz := hS.size
      refine wpAnyH_ready (rs := [2]) (by kernel_rfl) (by simp) ?_
      refine (AllReadyH.cons rfl ?_ AllReadyH.nil)
      intro K hK
      refine ready_call rfl (some 16) rfl 17 #[.agg (arrC X)] (by go_simp) ?_
      refine (slice_any X _).mono ?_
      rintro e w22 ⟨b1, c1, rfl, hcb1, hlb1, hC, xhr1⟩
      refine ⟨_, rfl, ?_⟩
      simp only [Act.put, List.setIfInBounds_toArray, List.set_cons_zero, List.set_cons_succ]
      have xh4 : w22.heap[w4.heap.size]? = some (.cells (zL) 22 (0, 0)) := (heap_call hC xh4)
      have hS := hS.call hC
      have hz22 := hC.size
      clear hC
      refine hK.out _ _ hS ?_
      clear hK K
      intro _
      have hSz := hS.size
      refine wpAnyH_ready (rs := [3]) (by kernel_rfl) (by simp) ?_
      refine (AllReadyH.cons rfl ?_ AllReadyH.nil)
      intro K hK
      refine ready_call rfl (some 17) rfl 16 #[.agg (arrC 0), .slice (some ⟨b1, 0, none⟩) 32 c1] (by go_simp) ?_
      refine (FieldSetBytes_to 0 X b1 c1 hcb1 R HR _ xhr1).mono ?_
      rintro e w23 ⟨rfl, hC⟩
      refine ⟨_, rfl, ?_⟩
      simp only [Act.put, List.setIfInBounds_toArray, List.set_cons_zero, List.set_cons_succ]
      have xh4 : w23.heap[w4.heap.size]? = some (.cells (zL) 22 (0, 0)) := (heap_call hC xh4)
      have xhr1 : Row w23 b1 0 32 (byV X) := (Row.below_all xhr1 hC)
      have hS := hS.call hC
      have hz23 := hC.size
      clear hC
      refine hK.out _ _ hS ?_
      clear hK K
      intro _
      have hSz := hS.size
      refine takeAt (i := 4) (v := .tuple #[.agg (arrC R), .bool true]) rfl (some 13) rfl (by kernel_rfl) (by kernel_rfl) (by kernel_rfl) (fun _ _ _ h => h) (take_run rfl (fun _ _ => by go_simp)) hS ?_
      simp only [Act.put, List.setIfInBounds_toArray, List.set_cons_zero, List.set_cons_succ]
      refine takeAt (i := 5) (v := .agg (arrC R)) rfl (some 18) rfl (by kernel_rfl) (by kernel_rfl) (by kernel_rfl) (fun _ _ _ h => h) (take_run rfl (fun _ _ => by go_simp)) hS ?_
      simp only [Act.put, List.setIfInBounds_toArray, List.set_cons_zero, List.set_cons_succ]
      refine takeAt (i := 6) (v := .bool true) rfl (some 19) rfl (by kernel_rfl) (by kernel_rfl) (by kernel_rfl) (fun _ _ _ h => h) (take_run rfl (fun _ _ => by go_simp)) hS ?_
      simp only [Act.put, List.setIfInBounds_toArray, List.set_cons_zero, List.set_cons_succ]
      refine wpAnyH_ready (rs := [8]) (by kernel_rfl) (by simp) ?_
      refine (AllReadyH.cons rfl ?_ AllReadyH.nil)
      intro K hK
      rw [if_pos (by rfl)]
      refine wp_store_row 22 _ _ rfl (w4.heap.size) (arrC R) rfl rfl 22 (zL) xh4 (info32_of (arrC R) (arrC_size _)) (zL_size.trans (arrC_size _).symm) (arrC_one _) ?_
      refine put_at (none) rfl ?_
      simp only [Act.put, List.setIfInBounds_toArray, List.set_cons_zero, List.set_cons_succ]
      have xh4 : (w23.setRow (w4.heap.size) (arrC R)).heap[w4.heap.size]? = some (.cells (arrC R) 22 (0, 0)) := (setRow_heap _ _ _ _ _ _ xh4)
      have hS := hS.storeNew (arrC R) (show w3.heap.size ≤ w4.heap.size by omega)
      generalize w23.setRow (w4.heap.size) (arrC R) = w24 at *
      refine hK.out _ _ hS ?_
      clear hK K
      intro _
      have hSz := hS.size
      refine takeAt (i := 9) (v := .bool true) rfl (some 5) rfl (by kernel_rfl) (by kernel_rfl) (by kernel_rfl) (fun _ _ _ h => h) (take_run rfl (fun _ _ => by go_simp)) hS ?_
      simp only [Act.put, List.setIfInBounds_toArray, List.set_cons_zero, List.set_cons_succ]
      refine wpAnyH_done (by kernel_rfl) ?_ _
      refine NoPanic.normal ?_
      have hsz := hS.size
      have h1 : w24.heap[w.heap.size]? = some (.cells (arrC X) 22 (0, 0)) := hS.old h1 (Nat.ne_of_lt (heap_lt h1))
      have h3 : w24.heap[w.heap.size + 1]? = some (.cells (arrC Y) 22 (0, 0)) := hS.old h3 (Nat.ne_of_lt (heap_lt h3))
      have h4 := xh4
      have hBw24 : Hid (Below w.heap.size w w24) := Lib.hid (hBw3.out.trans (hS.below (by omega) hBw3.out.size))
      clear hS
      go_wp2_with fail
      go_meet
      exact ⟨w4.heap.size, rfl, Lib.hid (show w3.heap.size ≤ w4.heap.size by omega), Lib.hid h4, Lib.hid h1, Lib.hid h3, Lib.hid hBw24.out, Lib.hid (show w3.heap.size ≤ w24.heap.size by omega)⟩
  case rest =>
    obtain ⟨g4, rfl, Hg4, Hh4, Hh1, Hh3, hBw26, Hsz26⟩ := hcut
    obtain ⟨w26, rfl⟩ : ∃ u : World, u = wc := ⟨_, rfl⟩
    have hgl4 := Hg4.out
    have h4 := Hh4.out
    have hgu4 := heap_lt h4
    have h1 := Hh1.out
    have h3 := Hh3.out
    have hsz26 := Hsz26.out
    go_wp2_with fail
    refine wp_named ?_
    intro w27 ew27
    have hs27 : w26.heap.size ≤ w27.heap.size := by rw [ew27]; (try simp only [alloc_size, setRow_size]); omega
    have h1 : w27.heap[w.heap.size]? = some (.cells (arrC X) 22 (0, 0)) := by rw [ew27]; exact h1
    have h3 : w27.heap[w.heap.size + 1]? = some (.cells (arrC Y) 22 (0, 0)) := by rw [ew27]; exact h3
    have h4 : w27.heap[g4]? = some (.cells (arrC R) 22 (0, 0)) := by rw [ew27]; exact h4
    have hBw27 : Hid (Below w.heap.size w w27) := Lib.hid (by rw [ew27]; exact hBw26.out)
    clear ew27
    go_cut [6] (fun s6 wx => ∃ g6 : Nat, s6 = .pointer (some ⟨g6, 0, none⟩) ∧ Hid (w27.heap.size ≤ g6) ∧ Hid (wx.heap[g6]? = some (.cells (arrC R) 22 (0, 0))) ∧ Hid (wx.heap[w.heap.size]? = some (.cells (arrC X) 22 (0, 0))) ∧ Hid (wx.heap[w.heap.size + 1]? = some (.cells (arrC Y) 22 (0, 0))) ∧ Hid (wx.heap[g4]? = some (.cells (arrC R) 22 (0, 0))) ∧ Hid (Below w.heap.size w wx) ∧ Hid (w27.heap.size ≤ wx.heap.size))
    case first =>
      refine wp_region_noPanic ?_
      refine wp_region_held_drew (S := Keep (w27.heap.size) w27) (by kernel_rfl) (Keep.start _ _) ?_
      intro hS
      obtain ⟨w28, ed⟩ : ∃ u : World, u = w27.drew := ⟨_, rfl⟩
      rw [← ed] at hS ⊢
      have xh1 : w28.heap[w.heap.size]? = some (.cells (arrC X) 22 (0, 0)) := by rw [ed]; exact h1
      have xh3 : w28.heap[w.heap.size + 1]? = some (.cells (arrC Y) 22 (0, 0)) := by rw [ed]; exact h3
      have xh4 : w28.heap[g4]? = some (.cells (arrC R) 22 (0, 0)) := by rw [ed]; exact h4
      clear ed
      have hSz := hS.size
      clear xh1
      clear xh3
      clear xh4
      refine takeAt (i := 1) (v := .agg (arrC Y)) rfl (some 22) rfl (by kernel_rfl) (by kernel_rfl) (by kernel_rfl) (fun _ _ _ h => h) (take_row rfl _ _ rfl (w.heap.size + 1) rfl _ _ _ h3 (Nat.ne_of_lt (heap_lt h3)) under32 rfl (info32_of (arrC Y) (arrC_size _))) hS ?_
      simp only [Act.put, List.setIfInBounds_toArray, List.set_cons_zero, List.set_cons_succ]
      refine wpAnyH_ready (rs := [0, 7]) (by kernel_rfl) (by simp) ?_
      refine (AllReadyH.cons rfl ?_ (AllReadyH.cons rfl ?_ AllReadyH.nil))
      · intro K hK
        refine ready_call rfl (some 21) rfl 13 #[] (by go_simp) ?_
        refine (zero_v _).mono ?_
        rintro e w29 ⟨rfl, hC⟩
        refine ⟨_, rfl, ?_⟩
        simp only [Act.put, List.setIfInBounds_toArray, List.set_cons_zero, List.set_cons_succ]
        have hS := hS.call hC
        have hz29 := hC.size
        clear hC
        refine hK.out _ _ hS ?_
        clear hK K
        intro _
        have hSz := hS.size
        refine wpAnyH_ready (rs := [2, 7]) (by kernel_rfl) (by simp) ?_
        refine (AllReadyH.cons rfl ?_ (AllReadyH.cons rfl ?_ AllReadyH.nil))
        · intro K hK
          refine ready_call rfl (some 23) rfl 17 #[.agg (arrC Y)] (by go_simp) ?_
          refine (slice_any Y _).mono ?_
          rintro e w30 ⟨b2, c2, rfl, hcb2, hlb2, hC, xhr2⟩
          refine ⟨_, rfl, ?_⟩
          simp only [Act.put, List.setIfInBounds_toArray, List.set_cons_zero, List.set_cons_succ]
          have hS := hS.call hC
          have hz30 := hC.size
          clear hC
          refine hK.out _ _ hS ?_
          clear hK K
          intro _
          have hSz := hS.size
          refine wpAnyH_ready (rs := [3, 7]) (by kernel_rfl) (by simp) ?_
          refine (AllReadyH.cons rfl ?_ (AllReadyH.cons rfl ?_ AllReadyH.nil))
          · intro K hK
            refine ready_call rfl (some 24) rfl 16 #[.agg (arrC 0), .slice (some ⟨b2, 0, none⟩) 32 c2] (by go_simp) ?_
            refine (FieldSetBytes_to 0 Y b2 c2 hcb2 R HY _ xhr2).mono ?_
            rintro e w31 ⟨rfl, hC⟩
            refine ⟨_, rfl, ?_⟩
            simp only [Act.put, List.setIfInBounds_toArray, List.set_cons_zero, List.set_cons_succ]
            have xhr2 : Row w31 b2 0 32 (byV Y) := (Row.below_all xhr2 hC)
            have hS := hS.call hC
            have hz31 := hC.size
            clear hC
            refine hK.out _ _ hS ?_
            clear hK K
            intro _
            have hSz := hS.size
            refine takeAt (i := 4) (v := .tuple #[.agg (arrC R), .bool true]) rfl (some 20) rfl (by kernel_rfl) (by kernel_rfl) (by kernel_rfl) (fun _ _ _ h => h) (take_run rfl (fun _ _ => by go_simp)) hS ?_
            simp only [Act.put, List.setIfInBounds_toArray, List.set_cons_zero, List.set_cons_succ]
            refine takeAt (i := 5) (v := .agg (arrC R)) rfl (some 25) rfl (by kernel_rfl) (by kernel_rfl) (by kernel_rfl) (fun _ _ _ h => h) (take_run rfl (fun _ _ => by go_simp)) hS ?_
            simp only [Act.put, List.setIfInBounds_toArray, List.set_cons_zero, List.set_cons_succ]
            refine takeAt (i := 6) (v := .bool true) rfl (some 26) rfl (by kernel_rfl) (by kernel_rfl) (by kernel_rfl) (fun _ _ _ h => h) (take_run rfl (fun _ _ => by go_simp)) hS ?_
            simp only [Act.put, List.setIfInBounds_toArray, List.set_cons_zero, List.set_cons_succ]
            refine wpAnyH_ready (rs := [7]) (by kernel_rfl) (by simp) ?_
            refine (AllReadyH.cons rfl ?_ AllReadyH.nil)
            intro K hK
            refine ready_run rfl (some 6) rfl (.pointer (some ⟨w31.heap.size, 0, none⟩)) (w31.alloc (.cells zL 22)) (by go_simp; try rfl) ?_
            simp only [Act.put, List.setIfInBounds_toArray, List.set_cons_zero, List.set_cons_succ]
            obtain ⟨w32, ea⟩ : ∃ u : World, u = w31.alloc (.cells zL 22) := ⟨_, rfl⟩
            rw [← ea]
            have hS := hS.alloc (.cells zL 22)
            rw [← ea] at hS
            have hz32 : w31.heap.size + 1 ≤ w32.heap.size := by rw [ea, alloc_size]; omega
            have hy32 : w27.heap.size ≤ w31.heap.size := hSz
            have xh6 : w32.heap[w31.heap.size]? = some (.cells (zL) 22 (0, 0)) := by rw [ea]; exact heap_new_at _ _ _ rfl
            clear ea
            refine hK.out _ _ hS ?_
            clear hK K
            intro _
            have hSz := hS.size
            refine wpAnyH_ready (rs := [8]) (by kernel_rfl) (by simp) ?_
            refine (AllReadyH.cons rfl ?_ AllReadyH.nil)
            intro K hK
            rw [if_pos (by rfl)]
            refine wp_store_row 22 _ _ rfl (w31.heap.size) (arrC R) rfl rfl 22 (zL) xh6 (info32_of (arrC R) (arrC_size _)) (zL_size.trans (arrC_size _).symm) (arrC_one _) ?_
            refine put_at (none) rfl ?_
            simp only [Act.put, List.setIfInBounds_toArray, List.set_cons_zero, List.set_cons_succ]
            have xh6 : (w32.setRow (w31.heap.size) (arrC R)).heap[w31.heap.size]? = some (.cells (arrC R) 22 (0, 0)) := (setRow_heap _ _ _ _ _ _ xh6)
            have hS := hS.storeNew (arrC R) (show w27.heap.size ≤ w31.heap.size by omega)
            generalize w32.setRow (w31.heap.size) (arrC R) = w33 at *
            refine hK.out _ _ hS ?_
            clear hK K
            intro _
            have hSz := hS.size
            refine takeAt (i := 9) (v := .bool true) rfl (some 7) rfl (by kernel_rfl) (by kernel_rfl) (by kernel_rfl) (fun _ _ _ h => h) (take_run rfl (fun _ _ => by go_simp)) hS ?_
            simp only [Act.put, List.setIfInBounds_toArray, List.set_cons_zero, List.set_cons_succ]
            refine wpAnyH_done (by kernel_rfl) ?_ _
            refine NoPanic.normal ?_
            have hsz := hS.size
            have h1 : w33.heap[w.heap.size]? = some (.cells (arrC X) 22 (0, 0)) := hS.old h1 (Nat.ne_of_lt (heap_lt h1))
            have h3 : w33.heap[w.heap.size + 1]? = some (.cells (arrC Y) 22 (0, 0)) := hS.old h3 (Nat.ne_of_lt (heap_lt h3))
            have h4 : w33.heap[g4]? = some (.cells (arrC R) 22 (0, 0)) := hS.old h4 (Nat.ne_of_lt (heap_lt h4))
            have h6 := xh6
            have hBw33 : Hid (Below w.heap.size w w33) := Lib.hid (hBw27.out.trans (hS.below (by omega) hBw27.out.size))
            clear hS
            go_wp2_with fail
            go_meet
            exact ⟨w31.heap.size, rfl, Lib.hid (show w27.heap.size ≤ w31.heap.size by omega), Lib.hid h6, Lib.hid h1, Lib.hid h3, Lib.hid h4, Lib.hid hBw33.out, Lib.hid (show w27.heap.size ≤ w33.heap.size by omega)⟩
          · intro K hK
            refine ready_run rfl (some 6) rfl (.pointer (some ⟨w30.heap.size, 0, none⟩)) (w30.alloc (.cells zL 22)) (by go_simp; try rfl) ?_
            simp only [Act.put, List.setIfInBounds_toArray, List.set_cons_zero, List.set_cons_succ]
            obtain ⟨w35, ea⟩ : ∃ u : World, u = w30.alloc (.cells zL 22) := ⟨_, rfl⟩
            rw [← ea]
            have xhr2 : Row w35 b2 0 32 (byV Y) := by rw [ea]; exact (Row.alloc xhr2 _)
            have hS := hS.alloc (.cells zL 22)
            rw [← ea] at hS
            have hz35 : w30.heap.size + 1 ≤ w35.heap.size := by rw [ea, alloc_size]; omega
            have hy35 : w27.heap.size ≤ w30.heap.size := hSz
            have xh6 : w35.heap[w30.heap.size]? = some (.cells (zL) 22 (0, 0)) := by rw [ea]; exact heap_new_at _ _ _ rfl
            clear ea
            refine hK.out _ _ hS ?_
            clear hK K
            intro _
            have hSz := hS.size
            refine wpAnyH_ready (rs := [3]) (by kernel_rfl) (by simp) ?_
            refine (AllReadyH.cons rfl ?_ AllReadyH.nil)
            intro K hK
            refine ready_call rfl (some 24) rfl 16 #[.agg (arrC 0), .slice (some ⟨b2, 0, none⟩) 32 c2] (by go_simp) ?_
            refine (FieldSetBytes_to 0 Y b2 c2 hcb2 R HY _ xhr2).mono ?_
            rintro e w36 ⟨rfl, hC⟩
            refine ⟨_, rfl, ?_⟩
            simp only [Act.put, List.setIfInBounds_toArray, List.set_cons_zero, List.set_cons_succ]
            have xhr2 : Row w36 b2 0 32 (byV Y) := (Row.below_all xhr2 hC)
            have xh6 : w36.heap[w30.heap.size]? = some (.cells (zL) 22 (0, 0)) := (heap_call hC xh6)
            have hS := hS.call hC
            have hz36 := hC.size
            clear hC
            refine hK.out _ _ hS ?_
            clear hK K
            intro _
            have hSz := hS.size
            refine takeAt (i := 4) (v := .tuple #[.agg (arrC R), .bool true]) rfl (some 20) rfl (by kernel_rfl) (by kernel_rfl) (by kernel_rfl) (fun _ _ _ h => h) (take_run rfl (fun _ _ => by go_simp)) hS ?_
            simp only [Act.put, List.setIfInBounds_toArray, List.set_cons_zero, List.set_cons_succ]
            refine takeAt (i := 5) (v := .agg (arrC R)) rfl (some 25) rfl (by kernel_rfl) (by kernel_rfl) (by kernel_rfl) (fun _ _ _ h => h) (take_run rfl (fun _ _ => by go_simp)) hS ?_
            simp only [Act.put, List.setIfInBounds_toArray, List.set_cons_zero, List.set_cons_succ]
            refine takeAt (i := 6) (v := .bool true) rfl (some 26) rfl (by kernel_rfl) (by kernel_rfl) (by kernel_rfl) (fun _ _ _ h => h) (take_run rfl (fun _ _ => by go_simp)) hS ?_
            simp only [Act.put, List.setIfInBounds_toArray, List.set_cons_zero, List.set_cons_succ]
            refine wpAnyH_ready (rs := [8]) (by kernel_rfl) (by simp) ?_
            refine (AllReadyH.cons rfl ?_ AllReadyH.nil)
            intro K hK
            rw [if_pos (by rfl)]
            refine wp_store_row 22 _ _ rfl (w30.heap.size) (arrC R) rfl rfl 22 (zL) xh6 (info32_of (arrC R) (arrC_size _)) (zL_size.trans (arrC_size _).symm) (arrC_one _) ?_
            refine put_at (none) rfl ?_
            simp only [Act.put, List.setIfInBounds_toArray, List.set_cons_zero, List.set_cons_succ]
            have xh6 : (w36.setRow (w30.heap.size) (arrC R)).heap[w30.heap.size]? = some (.cells (arrC R) 22 (0, 0)) := (setRow_heap _ _ _ _ _ _ xh6)
            have hS := hS.storeNew (arrC R) (show w27.heap.size ≤ w30.heap.size by omega)
            generalize w36.setRow (w30.heap.size) (arrC R) = w37 at *
            refine hK.out _ _ hS ?_
            clear hK K
            intro _
            have hSz := hS.size
            refine takeAt (i := 9) (v := .bool true) rfl (some 7) rfl (by kernel_rfl) (by kernel_rfl) (by kernel_rfl) (fun _ _ _ h => h) (take_run rfl (fun _ _ => by go_simp)) hS ?_
            simp only [Act.put, List.setIfInBounds_toArray, List.set_cons_zero, List.set_cons_succ]
            refine wpAnyH_done (by kernel_rfl) ?_ _
            refine NoPanic.normal ?_
            have hsz := hS.size
            have h1 : w37.heap[w.heap.size]? = some (.cells (arrC X) 22 (0, 0)) := hS.old h1 (Nat.ne_of_lt (heap_lt h1))
            have h3 : w37.heap[w.heap.size + 1]? = some (.cells (arrC Y) 22 (0, 0)) := hS.old h3 (Nat.ne_of_lt (heap_lt h3))
            have h4 : w37.heap[g4]? = some (.cells (arrC R) 22 (0, 0)) := hS.old h4 (Nat.ne_of_lt (heap_lt h4))
            have h6 := xh6
            have hBw37 : Hid (Below w.heap.size w w37) := Lib.hid (hBw27.out.trans (hS.below (by omega) hBw27.out.size))
            clear hS
            go_wp2_with fail
            go_meet
            exact ⟨w30.heap.size, rfl, Lib.hid (show w27.heap.size ≤ w30.heap.size by omega), Lib.hid h6, Lib.hid h1, Lib.hid h3, Lib.hid h4, Lib.hid hBw37.out, Lib.hid (show w27.heap.size ≤ w37.heap.size by omega)⟩
        · intro K hK
          refine ready_run rfl (some 6) rfl (.pointer (some ⟨w29.heap.size, 0, none⟩)) (w29.alloc (.cells zL 22)) (by go_simp; try rfl) ?_
          simp only [Act.put, List.setIfInBounds_toArray, List.set_cons_zero, List.set_cons_succ]
          obtain ⟨w39, ea⟩ : ∃ u : World, u = w29.alloc (.cells zL 22) := ⟨_, rfl⟩
          rw [← ea]
          have hS := hS.alloc (.cells zL 22)
          rw [← ea] at hS
          have hz39 : w29.heap.size + 1 ≤ w39.heap.size := by rw [ea, alloc_size]; omega
          have hy39 : w27.heap.size ≤ w29.heap.size := hSz
          have xh6 : w39.heap[w29.heap.size]? = some (.cells (zL) 22 (0, 0)) := by rw [ea]; exact heap_new_at _ _ _ rfl
          clear ea
          refine hK.out _ _ hS ?_
          clear hK K
          intro _
          have hSz := hS.size
          refine wpAnyH_ready (rs := [2]) (by kernel_rfl) (by simp) ?_
          refine (AllReadyH.cons rfl ?_ AllReadyH.nil)
          intro K hK
          refine ready_call rfl (some 23) rfl 17 #[.agg (arrC Y)] (by go_simp) ?_
          refine (slice_any Y _).mono ?_
          rintro e w40 ⟨b2, c2, rfl, hcb2, hlb2, hC, xhr2⟩
          refine ⟨_, rfl, ?_⟩
          simp only [Act.put, List.setIfInBounds_toArray, List.set_cons_zero, List.set_cons_succ]
          have xh6 : w40.heap[w29.heap.size]? = some (.cells (zL) 22 (0, 0)) := (heap_call hC xh6)
          have hS := hS.call hC
          have hz40 := hC.size
          clear hC
          refine hK.out _ _ hS ?_
          clear hK K
          intro _
          have hSz := hS.size
          refine wpAnyH_ready (rs := [3]) (by kernel_rfl) (by simp) ?_
          refine (AllReadyH.cons rfl ?_ AllReadyH.nil)
          intro K hK
          refine ready_call rfl (some 24) rfl 16 #[.agg (arrC 0), .slice (some ⟨b2, 0, none⟩) 32 c2] (by go_simp) ?_
          refine (FieldSetBytes_to 0 Y b2 c2 hcb2 R HY _ xhr2).mono ?_
          rintro e w41 ⟨rfl, hC⟩
          refine ⟨_, rfl, ?_⟩
          simp only [Act.put, List.setIfInBounds_toArray, List.set_cons_zero, List.set_cons_succ]
          have xh6 : w41.heap[w29.heap.size]? = some (.cells (zL) 22 (0, 0)) := (heap_call hC xh6)
          have xhr2 : Row w41 b2 0 32 (byV Y) := (Row.below_all xhr2 hC)
          have hS := hS.call hC
          have hz41 := hC.size
          clear hC
          refine hK.out _ _ hS ?_
          clear hK K
          intro _
          have hSz := hS.size
          refine takeAt (i := 4) (v := .tuple #[.agg (arrC R), .bool true]) rfl (some 20) rfl (by kernel_rfl) (by kernel_rfl) (by kernel_rfl) (fun _ _ _ h => h) (take_run rfl (fun _ _ => by go_simp)) hS ?_
          simp only [Act.put, List.setIfInBounds_toArray, List.set_cons_zero, List.set_cons_succ]
          refine takeAt (i := 5) (v := .agg (arrC R)) rfl (some 25) rfl (by kernel_rfl) (by kernel_rfl) (by kernel_rfl) (fun _ _ _ h => h) (take_run rfl (fun _ _ => by go_simp)) hS ?_
          simp only [Act.put, List.setIfInBounds_toArray, List.set_cons_zero, List.set_cons_succ]
          refine takeAt (i := 6) (v := .bool true) rfl (some 26) rfl (by kernel_rfl) (by kernel_rfl) (by kernel_rfl) (fun _ _ _ h => h) (take_run rfl (fun _ _ => by go_simp)) hS ?_
          simp only [Act.put, List.setIfInBounds_toArray, List.set_cons_zero, List.set_cons_succ]
          refine wpAnyH_ready (rs := [8]) (by kernel_rfl) (by simp) ?_
          refine (AllReadyH.cons rfl ?_ AllReadyH.nil)
          intro K hK
          rw [if_pos (by rfl)]
          refine wp_store_row 22 _ _ rfl (w29.heap.size) (arrC R) rfl rfl 22 (zL) xh6 (info32_of (arrC R) (arrC_size _)) (zL_size.trans (arrC_size _).symm) (arrC_one _) ?_
          refine put_at (none) rfl ?_
          simp only [Act.put, List.setIfInBounds_toArray, List.set_cons_zero, List.set_cons_succ]
          have xh6 : (w41.setRow (w29.heap.size) (arrC R)).heap[w29.heap.size]? = some (.cells (arrC R) 22 (0, 0)) := (setRow_heap _ _ _ _ _ _ xh6)
          have hS := hS.storeNew (arrC R) (show w27.heap.size ≤ w29.heap.size by omega)
          generalize w41.setRow (w29.heap.size) (arrC R) = w42 at *
          refine hK.out _ _ hS ?_
          clear hK K
          intro _
          have hSz := hS.size
          refine takeAt (i := 9) (v := .bool true) rfl (some 7) rfl (by kernel_rfl) (by kernel_rfl) (by kernel_rfl) (fun _ _ _ h => h) (take_run rfl (fun _ _ => by go_simp)) hS ?_
          simp only [Act.put, List.setIfInBounds_toArray, List.set_cons_zero, List.set_cons_succ]
          refine wpAnyH_done (by kernel_rfl) ?_ _
          refine NoPanic.normal ?_
          have hsz := hS.size
          have h1 : w42.heap[w.heap.size]? = some (.cells (arrC X) 22 (0, 0)) := hS.old h1 (Nat.ne_of_lt (heap_lt h1))
          have h3 : w42.heap[w.heap.size + 1]? = some (.cells (arrC Y) 22 (0, 0)) := hS.old h3 (Nat.ne_of_lt (heap_lt h3))
          have h4 : w42.heap[g4]? = some (.cells (arrC R) 22 (0, 0)) := hS.old h4 (Nat.ne_of_lt (heap_lt h4))
          have h6 := xh6
          have hBw42 : Hid (Below w.heap.size w w42) := Lib.hid (hBw27.out.trans (hS.below (by omega) hBw27.out.size))
          clear hS
          go_wp2_with fail
          go_meet
          exact ⟨w29.heap.size, rfl, Lib.hid (show w27.heap.size ≤ w29.heap.size by omega), Lib.hid h6, Lib.hid h1, Lib.hid h3, Lib.hid h4, Lib.hid hBw42.out, Lib.hid (show w27.heap.size ≤ w42.heap.size by omega)⟩
      · intro K hK
        refine ready_run rfl (some 6) rfl (.pointer (some ⟨w28.heap.size, 0, none⟩)) (w28.alloc (.cells zL 22)) (by go_simp; try rfl) ?_
        simp only [Act.put, List.setIfInBounds_toArray, List.set_cons_zero, List.set_cons_succ]
        obtain ⟨w44, ea⟩ : ∃ u : World, u = w28.alloc (.cells zL 22) := ⟨_, rfl⟩
        rw [← ea]
        have hS := hS.alloc (.cells zL 22)
        rw [← ea] at hS
        have hz44 : w28.heap.size + 1 ≤ w44.heap.size := by rw [ea, alloc_size]; omega
        have hy44 : w27.heap.size ≤ w28.heap.size := hSz
        have xh6 : w44.heap[w28.heap.size]? = some (.cells (zL) 22 (0, 0)) := by rw [ea]; exact heap_new_at _ _ _ rfl
        clear ea
        refine hK.out _ _ hS ?_
        clear hK K
        intro _
        have hSz := hS.size
        refine wpAnyH_ready (rs := [0]) (by kernel_rfl) (by simp) ?_
        refine (AllReadyH.cons rfl ?_ AllReadyH.nil)
        intro K hK
        refine ready_call rfl (some 21) rfl 13 #[] (by go_simp) ?_
        refine (zero_v _).mono ?_
        rintro e w45 ⟨rfl, hC⟩
        refine ⟨_, rfl, ?_⟩
        simp only [Act.put, List.setIfInBounds_toArray, List.set_cons_zero, List.set_cons_succ]
        have xh6 : w45.heap[w28.heap.size]? = some (.cells (zL) 22 (0, 0)) := (heap_call hC xh6)
        have hS := hS.call hC
        have hz45 := hC.size
        clear hC
        refine hK.out _ _ hS ?_
        clear hK K
        intro _
        have hSz := hS.size
        refine wpAnyH_ready (rs := [2]) (by kernel_rfl) (by simp) ?_
        refine (AllReadyH.cons rfl ?_ AllReadyH.nil)
        intro K hK
        refine ready_call rfl (some 23) rfl 17 #[.agg (arrC Y)] (by go_simp) ?_
        refine (slice_any Y _).mono ?_
        rintro e w46 ⟨b2, c2, rfl, hcb2, hlb2, hC, xhr2⟩
        refine ⟨_, rfl, ?_⟩
        simp only [Act.put, List.setIfInBounds_toArray, List.set_cons_zero, List.set_cons_succ]
        have xh6 : w46.heap[w28.heap.size]? = some (.cells (zL) 22 (0, 0)) := (heap_call hC xh6)
        have hS := hS.call hC
        have hz46 := hC.size
        clear hC
        refine hK.out _ _ hS ?_
        clear hK K
        intro _
        have hSz := hS.size
        refine wpAnyH_ready (rs := [3]) (by kernel_rfl) (by simp) ?_
        refine (AllReadyH.cons rfl ?_ AllReadyH.nil)
        intro K hK
        refine ready_call rfl (some 24) rfl 16 #[.agg (arrC 0), .slice (some ⟨b2, 0, none⟩) 32 c2] (by go_simp) ?_
        refine (FieldSetBytes_to 0 Y b2 c2 hcb2 R HY _ xhr2).mono ?_
        rintro e w47 ⟨rfl, hC⟩
        refine ⟨_, rfl, ?_⟩
        simp only [Act.put, List.setIfInBounds_toArray, List.set_cons_zero, List.set_cons_succ]
        have xh6 : w47.heap[w28.heap.size]? = some (.cells (zL) 22 (0, 0)) := (heap_call hC xh6)
        have xhr2 : Row w47 b2 0 32 (byV Y) := (Row.below_all xhr2 hC)
        have hS := hS.call hC
        have hz47 := hC.size
        clear hC
        refine hK.out _ _ hS ?_
        clear hK K
        intro _
        have hSz := hS.size
        refine takeAt (i := 4) (v := .tuple #[.agg (arrC R), .bool true]) rfl (some 20) rfl (by kernel_rfl) (by kernel_rfl) (by kernel_rfl) (fun _ _ _ h => h) (take_run rfl (fun _ _ => by go_simp)) hS ?_
        simp only [Act.put, List.setIfInBounds_toArray, List.set_cons_zero, List.set_cons_succ]
        refine takeAt (i := 5) (v := .agg (arrC R)) rfl (some 25) rfl (by kernel_rfl) (by kernel_rfl) (by kernel_rfl) (fun _ _ _ h => h) (take_run rfl (fun _ _ => by go_simp)) hS ?_
        simp only [Act.put, List.setIfInBounds_toArray, List.set_cons_zero, List.set_cons_succ]
        refine takeAt (i := 6) (v := .bool true) rfl (some 26) rfl (by kernel_rfl) (by kernel_rfl) (by kernel_rfl) (fun _ _ _ h => h) (take_run rfl (fun _ _ => by go_simp)) hS ?_
        simp only [Act.put, List.setIfInBounds_toArray, List.set_cons_zero, List.set_cons_succ]
        refine wpAnyH_ready (rs := [8]) (by kernel_rfl) (by simp) ?_
        refine (AllReadyH.cons rfl ?_ AllReadyH.nil)
        intro K hK
        rw [if_pos (by rfl)]
        refine wp_store_row 22 _ _ rfl (w28.heap.size) (arrC R) rfl rfl 22 (zL) xh6 (info32_of (arrC R) (arrC_size _)) (zL_size.trans (arrC_size _).symm) (arrC_one _) ?_
        refine put_at (none) rfl ?_
        simp only [Act.put, List.setIfInBounds_toArray, List.set_cons_zero, List.set_cons_succ]
        have xh6 : (w47.setRow (w28.heap.size) (arrC R)).heap[w28.heap.size]? = some (.cells (arrC R) 22 (0, 0)) := (setRow_heap _ _ _ _ _ _ xh6)
        have hS := hS.storeNew (arrC R) (show w27.heap.size ≤ w28.heap.size by omega)
        generalize w47.setRow (w28.heap.size) (arrC R) = w48 at *
        refine hK.out _ _ hS ?_
        clear hK K
        intro _
        have hSz := hS.size
        refine takeAt (i := 9) (v := .bool true) rfl (some 7) rfl (by kernel_rfl) (by kernel_rfl) (by kernel_rfl) (fun _ _ _ h => h) (take_run rfl (fun _ _ => by go_simp)) hS ?_
        simp only [Act.put, List.setIfInBounds_toArray, List.set_cons_zero, List.set_cons_succ]
        refine wpAnyH_done (by kernel_rfl) ?_ _
        refine NoPanic.normal ?_
        have hsz := hS.size
        have h1 : w48.heap[w.heap.size]? = some (.cells (arrC X) 22 (0, 0)) := hS.old h1 (Nat.ne_of_lt (heap_lt h1))
        have h3 : w48.heap[w.heap.size + 1]? = some (.cells (arrC Y) 22 (0, 0)) := hS.old h3 (Nat.ne_of_lt (heap_lt h3))
        have h4 : w48.heap[g4]? = some (.cells (arrC R) 22 (0, 0)) := hS.old h4 (Nat.ne_of_lt (heap_lt h4))
        have h6 := xh6
        have hBw48 : Hid (Below w.heap.size w w48) := Lib.hid (hBw27.out.trans (hS.below (by omega) hBw27.out.size))
        clear hS
        go_wp2_with fail
        go_meet
        exact ⟨w28.heap.size, rfl, Lib.hid (show w27.heap.size ≤ w28.heap.size by omega), Lib.hid h6, Lib.hid h1, Lib.hid h3, Lib.hid h4, Lib.hid hBw48.out, Lib.hid (show w27.heap.size ≤ w48.heap.size by omega)⟩
    case rest =>
      obtain ⟨g6, rfl, Hg6, Hh6, Hh1, Hh3, Hh4, hBw50, Hsz50⟩ := hcut
      obtain ⟨w50, rfl⟩ : ∃ u : World, u = wc := ⟨_, rfl⟩
      have hgl6 := Hg6.out
      have h6 := Hh6.out
      have hgu6 := heap_lt h6
      have h1 := Hh1.out
      have h3 := Hh3.out
      have h4 := Hh4.out
      have hsz50 := Hsz50.out
      have heq := fun u : World => run_eq_arr R R lR lR u
      rw [show (decide (R = R)) = true from by simp] at heq
      go_wp2_with (first
        | ((with_reducible refine at_dst 27 ?_); refine wpList_load_row rfl 22 _ rfl (g4) rfl 22 (arrC R) (0, 0) _ h4 under32 rfl (info32_of (arrC R) (arrC_size _)) ?_)
        | ((with_reducible refine at_dst 28 ?_); refine wpList_load_row rfl 22 _ rfl (g6) rfl 22 (arrC R) (0, 0) _ h6 under32 rfl (info32_of (arrC R) (arrC_size _)) ?_)
        | ((with_reducible refine at_dst 31 ?_); refine load_guarded rfl 22 _ rfl (w.heap.size) rfl 22 (arrC X) (0, 0) _ h1 under32 rfl (info32_of (arrC X) (arrC_size _)) ?_)
        | ((with_reducible refine at_dst 32 ?_); refine load_guarded rfl 22 _ rfl (w.heap.size + 1) rfl 22 (arrC Y) (0, 0) _ h3 under32 rfl (info32_of (arrC Y) (arrC_size _)) ?_))
      refine (FieldEqual_any X Y 1 HZ _).mono ?_
      rintro e w51 ⟨rfl, hC51⟩
      have hs51 : w50.heap.size ≤ w51.heap.size := by have := hC51.size; (try simp only [alloc_size, setRow_size] at this); omega
      have h1 : w51.heap[w.heap.size]? = some (.cells (arrC X) 22 (0, 0)) := (heap_call hC51 h1)
      have h3 : w51.heap[w.heap.size + 1]? = some (.cells (arrC Y) 22 (0, 0)) := (heap_call hC51 h3)
      have h4 : w51.heap[g4]? = some (.cells (arrC R) 22 (0, 0)) := (heap_call hC51 h4)
      have h6 : w51.heap[g6]? = some (.cells (arrC R) 22 (0, 0)) := (heap_call hC51 h6)
      have hBw51 : Hid (Below w.heap.size w w51) := Lib.hid (below_call hBw50.out hC51)
      clear hC51
      go_wp2
      go_ret
      exact ⟨rfl, hBw51.out⟩

theorem HighBit_walk (X : Nat) (hX : X < 256 ^ 32) (w : World) : Calls Try.prog 6 #[.agg (arrC X)] w fun e w' => e = .returned (.bool true) ∧ Below w.heap.size w w' := HighBit_raw X _ hX rfl w

end Go.Proofs.Ytfkodiefldljgaa
