/- The thin package's FieldMultiply. -/
import Derived.Test.YtmabidcocdflkaaDoorUMF
import Derived.Test.YtmabidcocdflkaaDoorF5
set_option linter.unusedSimpArgs false
set_option linter.unusedVariables false
namespace Go.Proofs.YtmabidcocdflkaaDoor
open Go.RowKit

theorem mul_el (vb vo ab ao cb co x y : Nat) (Lv : L5) (w : World) (hv : El w vb vo Lv) (ha : Fe w ab ao x) (hb : Fe w cb co y) (dA : Apart vb vo ab ao) (dB : Apart vb vo cb co) :
    Calls Tryd.prog 22 #[.pointer (some ⟨vb, vo, none⟩), .pointer (some ⟨ab, ao, none⟩), .pointer (some ⟨cb, co, none⟩)] w fun e w' => e = .returned (.pointer (some ⟨vb, vo, none⟩)) ∧ Sets w w' vb vo (x * y % pF) :=
  mul_fe' vb vo ab ao cb co x y (limbV Lv) w hv ha hb _ rfl
set_option maxHeartbeats 2000000 in
theorem FieldMul_raw (N M : Nat) (w : World) (cN cM : Array Value) (hN : Hid (Value.agg cN = arrV N)) (hM : Hid (Value.agg cM = arrV M)) (hiN : (Tryd.prog.info? 22).map (·.size) = some cN.size) (hiM : (Tryd.prog.info? 22).map (·.size) = some cM.size) :
    Calls Tryd.prog 13 #[.agg cN, .agg cM] w fun e w' => e = .returned (.agg (arrC (valN N * valN M % pF))) ∧ Below w.heap.size w w' := by
  go_enter Tryd.func13, Tryd.ntmps13
  go_wp2
  obtain ⟨zs, hzs⟩ : ∃ zs : Array Value, zs = #[.int .u8 0, .int .u8 0, .int .u8 0, .int .u8 0, .int .u8 0, .int .u8 0, .int .u8 0, .int .u8 0, .int .u8 0, .int .u8 0, .int .u8 0, .int .u8 0, .int .u8 0, .int .u8 0, .int .u8 0, .int .u8 0, .int .u8 0, .int .u8 0, .int .u8 0, .int .u8 0, .int .u8 0, .int .u8 0, .int .u8 0, .int .u8 0, .int .u8 0, .int .u8 0, .int .u8 0, .int .u8 0, .int .u8 0, .int .u8 0, .int .u8 0, .int .u8 0] := ⟨_, rfl⟩
  have hz32 : zs.size = 32 := by rw [hzs]; rfl
  rw [← hzs]
  clear hzs
  obtain ⟨w0, hw0⟩ : ∃ u : World, u = ((w.alloc (.cells cN 22)).alloc (.cells cM 22)).alloc (.cells zs 22) := ⟨_, rfl⟩
  rw [← hw0]
  have h2 : w0.heap[w.heap.size]? = some (.cells cN 22 (0, 0)) := by rw [hw0]; exact three_new0 _ _ _ _
  have h3 : w0.heap[w.heap.size + 1]? = some (.cells cM 22 (0, 0)) := by rw [hw0]; exact three_new1 _ _ _ _
  have h4 : w0.heap[(w.heap.size + 1 + 1)]? = some (.cells zs 22 (0, 0)) := by rw [hw0]; exact three_new2 _ _ _ _
  have hs0 : w0.heap.size = w.heap.size + 1 + 1 + 1 := by rw [hw0, alloc_size, alloc_size, alloc_size]
  have hW0 := Lib.hid (show Below w.heap.size w w0 by rw [hw0]; exact (((Below.refl _ w).alloc (Nat.le_refl _) _).alloc (by rw [alloc_size]; omega) _).alloc (by rw [alloc_size, alloc_size]; omega) _)
  clear hw0
  refine wp_region_noPanic ?_
  refine wp_region_held_drew (S := Below (w.heap.size + 1 + 1) w0) (by kernel_rfl) (Below.refl _ _).drew ?_
  intro hS
  obtain ⟨wd, hwd⟩ : ∃ u : World, u = w0.drew := ⟨_, rfl⟩
  rw [← hwd] at hS ⊢
  have h4 : wd.heap[(w.heap.size + 1 + 1)]? = some (.cells zs 22 (0, 0)) := by rw [hwd]; exact h4
  clear hwd
  refine wpAnyH_take (i := 1) (v := .agg cN) rfl (by kernel_rfl) (by kernel_rfl) (by kernel_rfl) (fun _ _ _ h => h) (yieldsIf_load_row rfl _ _ rfl w.heap.size rfl _ _ _ h2 (by omega) under32 rfl hiN) hS ?_
  simp only [Act.put, List.setIfInBounds_toArray, List.set_cons_zero, List.set_cons_succ]
  refine wpAnyH_take (i := 3) (v := .agg cM) rfl (by kernel_rfl) (by kernel_rfl) (by kernel_rfl) (fun _ _ _ h => h) (yieldsIf_load_row rfl _ _ rfl (w.heap.size + 1) rfl _ _ _ h3 (by omega) under32 rfl hiM) hS ?_
  simp only [Act.put, List.setIfInBounds_toArray, List.set_cons_zero, List.set_cons_succ]
  refine wpAnyH_ready (rs := [0, 2]) (by kernel_rfl) (by simp) ?_
  refine (AllReadyH.cons rfl ?_ (AllReadyH.cons rfl ?_ AllReadyH.nil))
  · intro K hK
    go_simp
    obtain ⟨wa0, hwa⟩ : ∃ u : World, u = wd.alloc (.cells #[.int .u64 0, .int .u64 0, .int .u64 0, .int .u64 0, .int .u64 0] 36) := ⟨_, rfl⟩
    rw [← hwa]
    have hB : Below wd.heap.size wd wa0 := by rw [hwa]; exact (Below.refl _ _).alloc (Nat.le_refl _) _
    have hz : El wa0 wd.heap.size 0 z5 := by rw [hwa]; exact El.newz _
    have hzb : (w.heap.size + 1 + 1) < wd.heap.size := by have := hS.size; omega
    clear hwa
    have h4 := (hB.block (w.heap.size + 1 + 1) (by have := hS.size; omega)).trans h4
    have hS : Below (w.heap.size + 1 + 1) w0 wa0 := hS.trans (hB.mono (by have := hS.size; omega))
    clear hB
    refine hK.out _ _ hS ?_
    clear hK K
    intro _
    refine wpAnyH_ready (rs := [2]) (by kernel_rfl) (by simp) ?_
    refine (AllReadyH.cons rfl ?_ AllReadyH.nil)
    · intro K hK
      go_simp
      rw [hN.out]
      refine (elementOf_any N _).mono ?_
      rintro e w2 ⟨b1, rfl, hb1, hB, hf1⟩
      have h4 := (hB.block (w.heap.size + 1 + 1) (by have := hS.size; omega)).trans h4
      have hz := Row.below_all hz hB
      have hb1 : (w.heap.size + 1 + 1) < b1 := by have := hS.size; omega
      have hS : Below (w.heap.size + 1 + 1) w0 w2 := hS.trans (hB.mono (by have := hS.size; omega))
      clear hB
      refine hK.out _ _ hS ?_
      clear hK K
      intro _
      refine wpAnyH_ready (rs := [4]) (by kernel_rfl) (by simp) ?_
      refine (AllReadyH.cons rfl ?_ AllReadyH.nil)
      · intro K hK
        go_simp
        rw [hM.out]
        refine (elementOf_any M _).mono ?_
        rintro e w4 ⟨b2, rfl, hb2, hB, hf2⟩
        have h4 := (hB.block (w.heap.size + 1 + 1) (by have := hS.size; omega)).trans h4
        have hz := Row.below_all hz hB
        have hf1 := hf1.below_all hB
        have hb2 : (w.heap.size + 1 + 1) < b2 := by have := hS.size; omega
        have hS : Below (w.heap.size + 1 + 1) w0 w4 := hS.trans (hB.mono (by have := hS.size; omega))
        clear hB
        refine hK.out _ _ hS ?_
        clear hK K
        intro _
        refine wpAnyH_ready (rs := [5]) (by kernel_rfl) (by simp) ?_
        refine (AllReadyH.cons rfl ?_ AllReadyH.nil)
        · intro K hK
          go_simp
          refine (mul_el wd.heap.size 0 b1 0 b2 0 _ _ z5 _ hz hf1 hf2 (apart0 _ _) (apart0 _ _)).mono ?_
          rintro e w5 ⟨rfl, hs⟩
          have hr := hs.fe hz
          have h4 := (hs.block (w.heap.size + 1 + 1) (by have := hS.size; omega) (by omega)).trans h4
          have hS : Below (w.heap.size + 1 + 1) w0 w5 := hS.trans (hs.below (by omega) (by have := hS.size; omega))
          clear hs hz hf1 hf2
          refine hK.out _ _ hS ?_
          clear hK K
          intro _
          refine wpAnyH_ready (rs := [6]) (by kernel_rfl) (by simp) ?_
          refine (AllReadyH.cons rfl ?_ AllReadyH.nil)
          · intro K hK
            go_simp
            refine (elementBytes_any _ 0 _ _ hr).mono ?_
            rintro e w6 ⟨rfl, hB⟩
            rw [arrV_eq]
            have hr := hr.below_all hB
            have h4 := (hB.block (w.heap.size + 1 + 1) (by have := hS.size; omega)).trans h4
            have hS : Below (w.heap.size + 1 + 1) w0 w6 := hS.trans (hB.mono (by have := hS.size; omega))
            clear hB
            refine hK.out _ _ hS ?_
            clear hK K
            intro _
            refine wpAnyH_ready (rs := [7]) (by kernel_rfl) (by simp) ?_
            refine (AllReadyH.cons rfl ?_ AllReadyH.nil)
            · intro K hK
              rw [if_pos (by rfl)]
              refine wp_store_row 22 _ _ rfl (w.heap.size + 1 + 1) (arrC (valN N * valN M % pF)) rfl rfl 22 zs h4 (info32.trans (by rw [arrC_size])) (hz32.trans (arrC_size _).symm) (arrC_one _) ?_
              simp only [Act.put, List.setIfInBounds_toArray, List.set_cons_zero, List.set_cons_succ]
              have hS := below_setRow hS (Nat.le_refl _) (arrC (valN N * valN M % pF))
              refine hK.out _ _ hS ?_
              clear hK K
              intro _
              refine wpAnyH_done (by kernel_rfl) ?_ _
              refine NoPanic.normal ?_
              go_wp2
              refine bodyPost_ret (results_cell_row rfl _ _ (w.heap.size + 1 + 1) 22 (arrC (valN N * valN M % pF)) (0, 0) _ rfl (setRow_heap _ _ _ _ _ _ h4) under32 rfl (info32.trans (by rw [arrC_size]))) rfl ⟨rfl, hW0.out.trans (hS.mono (by omega))⟩
  · intro K hK
    go_simp
    rw [hN.out]
    refine (elementOf_any N _).mono ?_
    rintro e w2 ⟨b1, rfl, hb1, hB, hf1⟩
    have h4 := (hB.block (w.heap.size + 1 + 1) (by have := hS.size; omega)).trans h4
    have hb1 : (w.heap.size + 1 + 1) < b1 := by have := hS.size; omega
    have hS : Below (w.heap.size + 1 + 1) w0 w2 := hS.trans (hB.mono (by have := hS.size; omega))
    clear hB
    refine hK.out _ _ hS ?_
    clear hK K
    intro _
    refine wpAnyH_ready (rs := [0, 4]) (by kernel_rfl) (by simp) ?_
    refine (AllReadyH.cons rfl ?_ (AllReadyH.cons rfl ?_ AllReadyH.nil))
    · intro K hK
      go_simp
      obtain ⟨wa0, hwa⟩ : ∃ u : World, u = w2.alloc (.cells #[.int .u64 0, .int .u64 0, .int .u64 0, .int .u64 0, .int .u64 0] 36) := ⟨_, rfl⟩
      rw [← hwa]
      have hB : Below w2.heap.size w2 wa0 := by rw [hwa]; exact (Below.refl _ _).alloc (Nat.le_refl _) _
      have hz : El wa0 w2.heap.size 0 z5 := by rw [hwa]; exact El.newz _
      have hzb : (w.heap.size + 1 + 1) < w2.heap.size := by have := hS.size; omega
      clear hwa
      have h4 := (hB.block (w.heap.size + 1 + 1) (by have := hS.size; omega)).trans h4
      have hf1 := hf1.below_all hB
      have hS : Below (w.heap.size + 1 + 1) w0 wa0 := hS.trans (hB.mono (by have := hS.size; omega))
      clear hB
      refine hK.out _ _ hS ?_
      clear hK K
      intro _
      refine wpAnyH_ready (rs := [4]) (by kernel_rfl) (by simp) ?_
      refine (AllReadyH.cons rfl ?_ AllReadyH.nil)
      · intro K hK
        go_simp
        rw [hM.out]
        refine (elementOf_any M _).mono ?_
        rintro e w4 ⟨b2, rfl, hb2, hB, hf2⟩
        have h4 := (hB.block (w.heap.size + 1 + 1) (by have := hS.size; omega)).trans h4
        have hf1 := hf1.below_all hB
        have hz := Row.below_all hz hB
        have hb2 : (w.heap.size + 1 + 1) < b2 := by have := hS.size; omega
        have hS : Below (w.heap.size + 1 + 1) w0 w4 := hS.trans (hB.mono (by have := hS.size; omega))
        clear hB
        refine hK.out _ _ hS ?_
        clear hK K
        intro _
        refine wpAnyH_ready (rs := [5]) (by kernel_rfl) (by simp) ?_
        refine (AllReadyH.cons rfl ?_ AllReadyH.nil)
        · intro K hK
          go_simp
          refine (mul_el w2.heap.size 0 b1 0 b2 0 _ _ z5 _ hz hf1 hf2 (apart0 _ _) (apart0 _ _)).mono ?_
          rintro e w5 ⟨rfl, hs⟩
          have hr := hs.fe hz
          have h4 := (hs.block (w.heap.size + 1 + 1) (by have := hS.size; omega) (by omega)).trans h4
          have hS : Below (w.heap.size + 1 + 1) w0 w5 := hS.trans (hs.below (by omega) (by have := hS.size; omega))
          clear hs hz hf1 hf2
          refine hK.out _ _ hS ?_
          clear hK K
          intro _
          refine wpAnyH_ready (rs := [6]) (by kernel_rfl) (by simp) ?_
          refine (AllReadyH.cons rfl ?_ AllReadyH.nil)
          · intro K hK
            go_simp
            refine (elementBytes_any _ 0 _ _ hr).mono ?_
            rintro e w6 ⟨rfl, hB⟩
            rw [arrV_eq]
            have hr := hr.below_all hB
            have h4 := (hB.block (w.heap.size + 1 + 1) (by have := hS.size; omega)).trans h4
            have hS : Below (w.heap.size + 1 + 1) w0 w6 := hS.trans (hB.mono (by have := hS.size; omega))
            clear hB
            refine hK.out _ _ hS ?_
            clear hK K
            intro _
            refine wpAnyH_ready (rs := [7]) (by kernel_rfl) (by simp) ?_
            refine (AllReadyH.cons rfl ?_ AllReadyH.nil)
            · intro K hK
              rw [if_pos (by rfl)]
              refine wp_store_row 22 _ _ rfl (w.heap.size + 1 + 1) (arrC (valN N * valN M % pF)) rfl rfl 22 zs h4 (info32.trans (by rw [arrC_size])) (hz32.trans (arrC_size _).symm) (arrC_one _) ?_
              simp only [Act.put, List.setIfInBounds_toArray, List.set_cons_zero, List.set_cons_succ]
              have hS := below_setRow hS (Nat.le_refl _) (arrC (valN N * valN M % pF))
              refine hK.out _ _ hS ?_
              clear hK K
              intro _
              refine wpAnyH_done (by kernel_rfl) ?_ _
              refine NoPanic.normal ?_
              go_wp2
              refine bodyPost_ret (results_cell_row rfl _ _ (w.heap.size + 1 + 1) 22 (arrC (valN N * valN M % pF)) (0, 0) _ rfl (setRow_heap _ _ _ _ _ _ h4) under32 rfl (info32.trans (by rw [arrC_size]))) rfl ⟨rfl, hW0.out.trans (hS.mono (by omega))⟩
    · intro K hK
      go_simp
      rw [hM.out]
      refine (elementOf_any M _).mono ?_
      rintro e w4 ⟨b2, rfl, hb2, hB, hf2⟩
      have h4 := (hB.block (w.heap.size + 1 + 1) (by have := hS.size; omega)).trans h4
      have hf1 := hf1.below_all hB
      have hb2 : (w.heap.size + 1 + 1) < b2 := by have := hS.size; omega
      have hS : Below (w.heap.size + 1 + 1) w0 w4 := hS.trans (hB.mono (by have := hS.size; omega))
      clear hB
      refine hK.out _ _ hS ?_
      clear hK K
      intro _
      refine wpAnyH_ready (rs := [0]) (by kernel_rfl) (by simp) ?_
      refine (AllReadyH.cons rfl ?_ AllReadyH.nil)
      · intro K hK
        go_simp
        obtain ⟨wa0, hwa⟩ : ∃ u : World, u = w4.alloc (.cells #[.int .u64 0, .int .u64 0, .int .u64 0, .int .u64 0, .int .u64 0] 36) := ⟨_, rfl⟩
        rw [← hwa]
        have hB : Below w4.heap.size w4 wa0 := by rw [hwa]; exact (Below.refl _ _).alloc (Nat.le_refl _) _
        have hz : El wa0 w4.heap.size 0 z5 := by rw [hwa]; exact El.newz _
        have hzb : (w.heap.size + 1 + 1) < w4.heap.size := by have := hS.size; omega
        clear hwa
        have h4 := (hB.block (w.heap.size + 1 + 1) (by have := hS.size; omega)).trans h4
        have hf1 := hf1.below_all hB
        have hf2 := hf2.below_all hB
        have hS : Below (w.heap.size + 1 + 1) w0 wa0 := hS.trans (hB.mono (by have := hS.size; omega))
        clear hB
        refine hK.out _ _ hS ?_
        clear hK K
        intro _
        refine wpAnyH_ready (rs := [5]) (by kernel_rfl) (by simp) ?_
        refine (AllReadyH.cons rfl ?_ AllReadyH.nil)
        · intro K hK
          go_simp
          refine (mul_el w4.heap.size 0 b1 0 b2 0 _ _ z5 _ hz hf1 hf2 (apart0 _ _) (apart0 _ _)).mono ?_
          rintro e w5 ⟨rfl, hs⟩
          have hr := hs.fe hz
          have h4 := (hs.block (w.heap.size + 1 + 1) (by have := hS.size; omega) (by omega)).trans h4
          have hS : Below (w.heap.size + 1 + 1) w0 w5 := hS.trans (hs.below (by omega) (by have := hS.size; omega))
          clear hs hz hf1 hf2
          refine hK.out _ _ hS ?_
          clear hK K
          intro _
          refine wpAnyH_ready (rs := [6]) (by kernel_rfl) (by simp) ?_
          refine (AllReadyH.cons rfl ?_ AllReadyH.nil)
          · intro K hK
            go_simp
            refine (elementBytes_any _ 0 _ _ hr).mono ?_
            rintro e w6 ⟨rfl, hB⟩
            rw [arrV_eq]
            have hr := hr.below_all hB
            have h4 := (hB.block (w.heap.size + 1 + 1) (by have := hS.size; omega)).trans h4
            have hS : Below (w.heap.size + 1 + 1) w0 w6 := hS.trans (hB.mono (by have := hS.size; omega))
            clear hB
            refine hK.out _ _ hS ?_
            clear hK K
            intro _
            refine wpAnyH_ready (rs := [7]) (by kernel_rfl) (by simp) ?_
            refine (AllReadyH.cons rfl ?_ AllReadyH.nil)
            · intro K hK
              rw [if_pos (by rfl)]
              refine wp_store_row 22 _ _ rfl (w.heap.size + 1 + 1) (arrC (valN N * valN M % pF)) rfl rfl 22 zs h4 (info32.trans (by rw [arrC_size])) (hz32.trans (arrC_size _).symm) (arrC_one _) ?_
              simp only [Act.put, List.setIfInBounds_toArray, List.set_cons_zero, List.set_cons_succ]
              have hS := below_setRow hS (Nat.le_refl _) (arrC (valN N * valN M % pF))
              refine hK.out _ _ hS ?_
              clear hK K
              intro _
              refine wpAnyH_done (by kernel_rfl) ?_ _
              refine NoPanic.normal ?_
              go_wp2
              refine bodyPost_ret (results_cell_row rfl _ _ (w.heap.size + 1 + 1) 22 (arrC (valN N * valN M % pF)) (0, 0) _ rfl (setRow_heap _ _ _ _ _ _ h4) under32 rfl (info32.trans (by rw [arrC_size]))) rfl ⟨rfl, hW0.out.trans (hS.mono (by omega))⟩

theorem FieldMul_any (N M : Nat) (w : World) : Calls Tryd.prog 13 #[arrV N, arrV M] w fun e w' => e = .returned (arrV (valN N * valN M % pF)) ∧ Below w.heap.size w w' :=
  FieldMul_raw N M w (arrC N) (arrC M) rfl rfl (info32.trans (by rw [arrC_size])) (info32.trans (by rw [arrC_size]))

theorem FieldMul_to (N M R : Nat) (hR : Hid (R = valN N * valN M % pF)) (w : World) : Calls Tryd.prog 13 #[.agg (arrC N), .agg (arrC M)] w fun e w' => e = .returned (.agg (arrC R)) ∧ Below w.heap.size w w' := by
  rw [hR.out]; exact FieldMul_any N M w

end Go.Proofs.YtmabidcocdflkaaDoor
