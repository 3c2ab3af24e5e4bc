/- laws.prime. -/
import Derived.Test.YtfkodiefldljgaaDoorL1
import Derived.Test.YtfkodiefldljgaaDoorK0
import Derived.Deep.DeepCutAuto
namespace Go.Proofs.YtfkodiefldljgaaDoor
open Go.RowKit

theorem prime_byte (i : Nat) (hi : i < 32) : byV pF i = if i = 31 then .int .u8 127 else if i = 0 then .int .u8 237 else .int .u8 255 := by
  have h : ∀ i : Fin 32, byteN pF i.val = if i.val = 31 then 127 else if i.val = 0 then 237 else 255 := by decide +kernel
  unfold byV
  rw [h ⟨i, hi⟩]
  simp only
  split
  · rfl
  · split <;> rfl
set_option maxHeartbeats 1000000 in
theorem prime_v (w : World) : Calls Tryd.prog 17 #[] w fun e w' => e = .returned (.agg (arrC pF)) ∧ Below w.heap.size w w' := by
  go_enter Tryd.func17, Tryd.ntmps17
  go_wp2_with (refine wpList_store_row rfl 22 _ _ rfl (w.heap.size + 1) zL rfl rfl 22 zL (two_new1 w _ _) info32 rfl zL_one ?_)
  obtain ⟨w1, hw1⟩ : ∃ u : World, u = ((w.alloc (.cells zL 22)).alloc (.cells zL 22)).setRow (w.heap.size + 1) zL := ⟨_, rfl⟩
  have h1 : w1.heap[w.heap.size + 1]? = some (.cells zL 22 (0, 0)) := by rw [hw1]; exact setRow_heap _ _ _ _ _ _ (two_new1 w _ _)
  have h0 : w1.heap[w.heap.size]? = some (.cells zL 22 (0, 0)) := by rw [hw1, setRow_other _ _ _ _ (by omega)]; exact two_new0 w _ _
  have hB := Lib.hid (show Below w.heap.size w w1 by rw [hw1]; exact below_setRow (((Below.refl _ w).alloc (Nat.le_refl _) _).alloc (by rw [alloc_size]; omega) _) (by omega) _)
  change Code.wp _ _ _ _ (((w.alloc (.cells zL 22)).alloc (.cells zL 22)).setRow (w.heap.size + 1) zL)
  rw [← hw1]
  clear hw1
  rw [zL_arrC] at h0 h1
  have hr := Lib.hid (Row.ofArr h1)
  have h0' := Lib.hid h0
  have h1' := Lib.hid h1
  have hlt1 := heap_lt h1
  clear h0 h1
  go_loopw [2] (fun i wr => ∃ k : Nat, k ≤ 32 ∧ i = .int .i64 (k : Int) ∧ Hid (Wr w1 wr (w.heap.size + 1) 0 32 (fun j => if j < k then .int .u8 255 else byV 0 j))) (fun i _ => 32 - (intOf i).toNat)
  case atStart =>
    exact ⟨0, by omega, rfl, Lib.hid ((Wr.start hr.out).congr fun i _ => by simp)⟩
  case round =>
    obtain ⟨k, hk, rfl, hw⟩ := hrel
    by_cases hlt : k < 32
    · have hf := (hw.out.row hr.out).frozen (i := k) (by omega)
      have hc := (hw.out.row hr.out).cell (i := k) (by omega)
      rw [if_neg (by omega)] at hc
      simp only [Nat.zero_add] at hf hc
      go_wp2
      go_roundw
      case rel =>
        refine ⟨k + 1, by omega, by go_num, Lib.hid ?_⟩
        have h9 := hw.out.set k (.int .u8 255) (by omega)
        rw [Nat.zero_add] at h9
        refine h9.congr fun j hj => ?_
        by_cases hjk : j = k
        · subst hjk
          rw [if_pos (by omega), if_pos rfl]
        · rw [if_neg hjk]
          by_cases h2 : j < k
          · rw [if_pos (by omega), if_pos h2]
          · rw [if_neg (by omega), if_neg h2]
      case measure => simp [intOf]; omega
    · have f0 := (hw.out.row hr.out).frozen (i := 0) (by omega)
      have c0 := (hw.out.row hr.out).cell (i := 0) (by omega)
      have f1 := (hw.out.row hr.out).frozen (i := 31) (by omega)
      have c1 := (hw.out.row hr.out).cell (i := 31) (by omega)
      simp only [Nat.zero_add] at f0 c0 f1 c1
      rw [if_pos (by omega)] at c0 c1
      go_upto_region 8 with (fail)
      refine wp_named ?_
      intro w2 e2
      have hw2 : Wr w1 w2 (w.heap.size + 1) 0 32 (byV pF) := by
        rw [e2]
        have h8 := (hw.out.set 0 (.int .u8 237) (by omega)).set 31 (.int .u8 127) (by omega)
        simp only [Nat.zero_add] at h8
        refine h8.congr fun j hj => ?_
        rw [prime_byte j hj]
        split
        · rfl
        · split
          · rfl
          · rw [if_pos (by omega)]
      clear e2 f0 c0 f1 c1
      have hl := hw2.arr h1'.out (arrC_size 0)
      have hs := (hw2.other _ (by omega) (by omega)).trans h0'.out
      have hBw := Lib.hid (hB.out.trans (hw2.below (B := w.heap.size) (by omega) hB.out.size))
      clear hw2
      go_wp2_with (first
        | ((with_reducible refine at_dst 12 ?_); refine wpList_load_row rfl 22 _ rfl (w.heap.size + 1) rfl 22 (arrC pF) (0, 0) _ hl under32 rfl (info32_of _ (arrC_size _)) ?_)
        | ((with_reducible refine at_store 0 ?_); refine wpList_store_row rfl 22 _ _ rfl (w.heap.size) (arrC pF) rfl rfl 22 (arrC 0) hs (info32_of _ (arrC_size _)) (by rw [arrC_size, arrC_size]) (arrC_one _) ?_))
      refine bodyPost_ret (results_cell_row rfl _ _ (w.heap.size) 22 (arrC pF) (0, 0) _ rfl (setRow_heap _ _ _ _ _ _ hs) under32 rfl (info32_of _ (arrC_size _))) rfl ⟨rfl, below_setRow hBw.out (by omega) _⟩

end Go.Proofs.YtfkodiefldljgaaDoor
