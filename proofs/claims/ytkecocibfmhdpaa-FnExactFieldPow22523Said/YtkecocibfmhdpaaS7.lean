/- The reference's numbers: times, power. -/
import Derived.Test.YtkecocibfmhdpaaS6
set_option linter.unusedSimpArgs false
set_option linter.unusedVariables false
namespace Go.Proofs.Ytkecocibfmhdpaa
open Go.RowKit

theorem plus_to (a b m r : Nat) (hr : Hid (r = (a + b) % m)) (ha : a < m) (hb : b < m) (hm : m < 57896044618658097711785492504343953926634992332820282019728792003956564819968) (w : World) :
    Calls Try.prog 60 #[.agg (numC a), .agg (numC b), .agg (numC m)] w fun e w' => e = .returned (.agg (numC r)) ∧ Below w.heap.size w w' := by
  rw [hr.out]; exact plus_any a b m ha hb hm w
theorem half_step (b k : Nat) : b / 2 ^ k = 2 * (b / 2 ^ (k + 1)) + b / 2 ^ k % 2 := by
  rw [Nat.pow_succ, ← Nat.div_div_eq_div_mul]; omega
theorem times_step0 (a b m k : Nat) (h : ¬ b / 2 ^ k % 2 = 1) : (a * (b / 2 ^ (k + 1)) % m + a * (b / 2 ^ (k + 1)) % m) % m = a * (b / 2 ^ k) % m := by
  rw [← Nat.add_mod, ← Nat.mul_add, half_step b k, show b / 2 ^ k % 2 = 0 by omega]
  congr 2; omega
theorem times_step1 (a b m k : Nat) (h : b / 2 ^ k % 2 = 1) : ((a * (b / 2 ^ (k + 1)) % m + a * (b / 2 ^ (k + 1)) % m) % m + a) % m = a * (b / 2 ^ k) % m := by
  rw [← Nat.add_mod, ← Nat.mul_add, Nat.mod_add_mod, half_step b k, h]
  congr 1
  rw [Nat.mul_add a (2 * _), Nat.mul_one]
  congr 2; omega

set_option maxHeartbeats 1000000 in
theorem times_any (a b m : Nat) (ha : a < m) (hb : b < 2 ^ 256) (hm : m < 57896044618658097711785492504343953926634992332820282019728792003956564819968) (w : World) :
    Calls Try.prog 46 #[.agg (numC a), .agg (numC b), .agg (numC m)] w fun e w' => e = .returned (.agg (numC (a * b % m))) ∧ Below w.heap.size w w' := by
  obtain ⟨F, qF⟩ : ∃ u : Nat, u = a * b % m := ⟨_, rfl⟩
  rw [← qF]
  have HF := Lib.hid qF; clear qF
  go_enter Try.func46, Try.ntmps46
  -- a literal store
  go_wp2_with fail
  go_loopw [8] (fun i wr => ∃ k X : Nat, k ≤ 256 ∧ i = .int .i64 ((k : Int) - 1) ∧ Hid (X = a * (b / 2 ^ k) % m) ∧ Hid (wr.heap[w.heap.size]? = some (.cells (numC a) 51 (0, 0))) ∧ Hid (wr.heap[w.heap.size + 1]? = some (.cells (numC b) 51 (0, 0))) ∧ Hid (wr.heap[w.heap.size + 1 + 1]? = some (.cells (numC m) 51 (0, 0))) ∧ Hid (wr.heap[w.heap.size + 1 + 1 + 1]? = some (.cells (z4) 51 (0, 0))) ∧ Hid (wr.heap[w.heap.size + 1 + 1 + 1 + 1]? = some (.cells (numC X) 51 (0, 0))) ∧ Hid (Below w.heap.size w wr)) (fun i _ => (intOf i + 1).toNat)
  case atStart =>
    exact ⟨256, 0, by omega, rfl, Lib.hid (by rw [Nat.div_eq_of_lt hb]; simp), Lib.hid (heap_old _ (heap_old _ (heap_old _ (heap_old _ (heap_new_at _ _ _ rfl))))), Lib.hid (heap_old _ (heap_old _ (heap_old _ (heap_new_at _ _ _ (by simp only [alloc_size, setRow_size]))))), Lib.hid (heap_old _ (heap_old _ (heap_new_at _ _ _ (by simp only [alloc_size, setRow_size])))), Lib.hid (heap_old _ (heap_new_at _ _ _ (by simp only [alloc_size, setRow_size]))), Lib.hid (by rw [← z4_num]; exact (heap_new_at _ _ _ (by simp only [alloc_size, setRow_size]))), Lib.hid (below_alloc (below_alloc (below_alloc (below_alloc (below_alloc (Below.refl _ w) _) _) _) _) _)⟩
  case round =>
    obtain ⟨k, X, hk, rfl, HX, H3, H4, H5, H6, H7, HB⟩ := hrel
    have h3 := H3.out
    have h4 := H4.out
    have h5 := H5.out
    have h6 := H6.out
    have h7 := H7.out
    clear H3 H4 H5 H6 H7
    rcases Nat.eq_zero_or_pos k with rfl | hpos
    · skip
      obtain rfl : X = F := by rw [HX.out, HF.out, Nat.pow_zero, Nat.div_one]
      go_wp2_with (first
        | ((with_reducible refine at_dst 25 ?_); refine wpList_load_row rfl 51 _ rfl (w.heap.size + 1 + 1 + 1 + 1) rfl 51 (numC X) (0, 0) _ h7 underNum rfl (infoNum_of (numC X) (numC_size _)) ?_)
        | ((with_reducible refine at_store 6 ?_); refine wpList_store_row rfl 51 _ _ rfl (w.heap.size + 1 + 1 + 1) (numC X) rfl rfl 51 (z4) h6 (infoNum_of (numC X) (numC_size _)) (z4_size.trans (numC_size _).symm) (numC_one _) ?_))
      refine bodyPost_ret (results_cell_row rfl _ _ (w.heap.size + 1 + 1 + 1) 51 (numC X) (0, 0) _ rfl (setRow_heap _ _ _ _ _ _ h6) underNum rfl (infoNum_of (numC X) (numC_size _))) rfl ⟨rfl, (below_setRow HB.out (by omega) _)⟩
    · obtain ⟨j, rfl⟩ : ∃ j, k = j + 1 := ⟨k - 1, by omega⟩
      have bl : X < m := by rw [HX.out]; exact Nat.mod_lt _ (by omega)
      obtain ⟨Y, qY⟩ : ∃ u : Nat, u = (X + X) % m := ⟨_, rfl⟩
      have bl2 : Y < m := by rw [qY]; exact Nat.mod_lt _ (by omega)
      have HY := Lib.hid qY; clear qY
      obtain ⟨Z, qZ⟩ : ∃ u : Nat, u = (Y + a) % m := ⟨_, rfl⟩
      have HZ := Lib.hid qZ; clear qZ
      by_cases hbit : b / 2 ^ j % 2 = 1
      · skip
        go_wp2_with (first
          | ((with_reducible refine at_dst 14 ?_); refine wpList_load_row rfl 51 _ rfl (w.heap.size + 1 + 1 + 1 + 1) rfl 51 (numC X) (0, 0) _ h7 underNum rfl (infoNum_of (numC X) (numC_size _)) ?_)
          | ((with_reducible refine at_dst 15 ?_); refine wpList_load_row rfl 51 _ rfl (w.heap.size + 1 + 1 + 1 + 1) rfl 51 (numC X) (0, 0) _ h7 underNum rfl (infoNum_of (numC X) (numC_size _)) ?_)
          | ((with_reducible refine at_dst 16 ?_); refine wpList_load_row rfl 51 _ rfl (w.heap.size + 1 + 1) rfl 51 (numC m) (0, 0) _ h5 underNum rfl (infoNum_of (numC m) (numC_size _)) ?_))
        refine (plus_to X X m Y HY bl bl hm _).mono ?_
        rintro e w1 ⟨rfl, hC1⟩
        have hs1 : wr.heap.size ≤ w1.heap.size := by have := hC1.size; (try simp only [alloc_size, setRow_size] at this); omega
        have h3 : w1.heap[w.heap.size]? = some (.cells (numC a) 51 (0, 0)) := (heap_call hC1 h3)
        have h4 : w1.heap[w.heap.size + 1]? = some (.cells (numC b) 51 (0, 0)) := (heap_call hC1 h4)
        have h5 : w1.heap[w.heap.size + 1 + 1]? = some (.cells (numC m) 51 (0, 0)) := (heap_call hC1 h5)
        have h6 : w1.heap[w.heap.size + 1 + 1 + 1]? = some (.cells (z4) 51 (0, 0)) := (heap_call hC1 h6)
        have h7 : w1.heap[w.heap.size + 1 + 1 + 1 + 1]? = some (.cells (numC X) 51 (0, 0)) := (heap_call hC1 h7)
        have hB1 : Hid (Below w.heap.size w w1) := Lib.hid (below_call HB.out hC1)
        clear hC1
        go_wp2_with (first
          | ((with_reducible refine at_store 7 ?_); refine wpList_store_row rfl 51 _ _ rfl (w.heap.size + 1 + 1 + 1 + 1) (numC Y) rfl rfl 51 (numC X) h7 (infoNum_of (numC Y) (numC_size _)) ((numC_size _).trans (numC_size _).symm) (numC_one _) ?_)
          | ((with_reducible refine at_dst 18 ?_); refine wpList_load_row rfl 51 _ rfl (w.heap.size + 1) rfl 51 (numC b) (0, 0) _ (heap_row _ (by omega) h4) underNum rfl (infoNum_of (numC b) (numC_size _)) ?_))
        refine (bit_true b j (by omega) hbit _).mono ?_
        rintro e w2 ⟨rfl, hC2⟩
        have hs2 : w1.heap.size ≤ w2.heap.size := by have := hC2.size; (try simp only [alloc_size, setRow_size] at this); omega
        have h3 : w2.heap[w.heap.size]? = some (.cells (numC a) 51 (0, 0)) := (heap_call hC2 (heap_row _ (by omega) h3))
        have h4 : w2.heap[w.heap.size + 1]? = some (.cells (numC b) 51 (0, 0)) := (heap_call hC2 (heap_row _ (by omega) h4))
        have h5 : w2.heap[w.heap.size + 1 + 1]? = some (.cells (numC m) 51 (0, 0)) := (heap_call hC2 (heap_row _ (by omega) h5))
        have h6 : w2.heap[w.heap.size + 1 + 1 + 1]? = some (.cells (z4) 51 (0, 0)) := (heap_call hC2 (heap_row _ (by omega) h6))
        have h7 : w2.heap[w.heap.size + 1 + 1 + 1 + 1]? = some (.cells (numC Y) 51 (0, 0)) := (heap_call hC2 (setRow_heap _ _ _ _ _ _ h7))
        have hB2 : Hid (Below w.heap.size w w2) := Lib.hid (below_call (below_setRow hB1.out (by omega) _) hC2)
        clear hC2
        go_wp2_with (first
          | ((with_reducible refine at_dst 21 ?_); refine wpList_load_row rfl 51 _ rfl (w.heap.size + 1 + 1 + 1 + 1) rfl 51 (numC Y) (0, 0) _ h7 underNum rfl (infoNum_of (numC Y) (numC_size _)) ?_)
          | ((with_reducible refine at_dst 22 ?_); refine wpList_load_row rfl 51 _ rfl (w.heap.size) rfl 51 (numC a) (0, 0) _ h3 underNum rfl (infoNum_of (numC a) (numC_size _)) ?_)
          | ((with_reducible refine at_dst 23 ?_); refine wpList_load_row rfl 51 _ rfl (w.heap.size + 1 + 1) rfl 51 (numC m) (0, 0) _ h5 underNum rfl (infoNum_of (numC m) (numC_size _)) ?_))
        refine (plus_to Y a m Z HZ bl2 ha hm _).mono ?_
        rintro e w3 ⟨rfl, hC3⟩
        have hs3 : w2.heap.size ≤ w3.heap.size := by have := hC3.size; (try simp only [alloc_size, setRow_size] at this); omega
        have h3 : w3.heap[w.heap.size]? = some (.cells (numC a) 51 (0, 0)) := (heap_call hC3 h3)
        have h4 : w3.heap[w.heap.size + 1]? = some (.cells (numC b) 51 (0, 0)) := (heap_call hC3 h4)
        have h5 : w3.heap[w.heap.size + 1 + 1]? = some (.cells (numC m) 51 (0, 0)) := (heap_call hC3 h5)
        have h6 : w3.heap[w.heap.size + 1 + 1 + 1]? = some (.cells (z4) 51 (0, 0)) := (heap_call hC3 h6)
        have h7 : w3.heap[w.heap.size + 1 + 1 + 1 + 1]? = some (.cells (numC Y) 51 (0, 0)) := (heap_call hC3 h7)
        have hB3 : Hid (Below w.heap.size w w3) := Lib.hid (below_call hB2.out hC3)
        clear hC3
        go_wp2_with (first
          | ((with_reducible refine at_store 7 ?_); refine wpList_store_row rfl 51 _ _ rfl (w.heap.size + 1 + 1 + 1 + 1) (numC Z) rfl rfl 51 (numC Y) h7 (infoNum_of (numC Z) (numC_size _)) ((numC_size _).trans (numC_size _).symm) (numC_one _) ?_))
        go_roundw
        case rel =>
          exact ⟨j, _, by omega, by go_num, Lib.hid (by rw [HZ.out, HY.out, HX.out]; exact times_step1 a b m j hbit), Lib.hid (heap_row _ (by omega) h3), Lib.hid (heap_row _ (by omega) h4), Lib.hid (heap_row _ (by omega) h5), Lib.hid (heap_row _ (by omega) h6), Lib.hid (setRow_heap _ _ _ _ _ _ h7), Lib.hid (below_setRow hB3.out (by omega) _)⟩
        case measure => simp [intOf]
      · skip
        go_wp2_with (first
          | ((with_reducible refine at_dst 14 ?_); refine wpList_load_row rfl 51 _ rfl (w.heap.size + 1 + 1 + 1 + 1) rfl 51 (numC X) (0, 0) _ h7 underNum rfl (infoNum_of (numC X) (numC_size _)) ?_)
          | ((with_reducible refine at_dst 15 ?_); refine wpList_load_row rfl 51 _ rfl (w.heap.size + 1 + 1 + 1 + 1) rfl 51 (numC X) (0, 0) _ h7 underNum rfl (infoNum_of (numC X) (numC_size _)) ?_)
          | ((with_reducible refine at_dst 16 ?_); refine wpList_load_row rfl 51 _ rfl (w.heap.size + 1 + 1) rfl 51 (numC m) (0, 0) _ h5 underNum rfl (infoNum_of (numC m) (numC_size _)) ?_))
        refine (plus_to X X m Y HY bl bl hm _).mono ?_
        rintro e w1 ⟨rfl, hC1⟩
        have hs1 : wr.heap.size ≤ w1.heap.size := by have := hC1.size; (try simp only [alloc_size, setRow_size] at this); omega
        have h3 : w1.heap[w.heap.size]? = some (.cells (numC a) 51 (0, 0)) := (heap_call hC1 h3)
        have h4 : w1.heap[w.heap.size + 1]? = some (.cells (numC b) 51 (0, 0)) := (heap_call hC1 h4)
        have h5 : w1.heap[w.heap.size + 1 + 1]? = some (.cells (numC m) 51 (0, 0)) := (heap_call hC1 h5)
        have h6 : w1.heap[w.heap.size + 1 + 1 + 1]? = some (.cells (z4) 51 (0, 0)) := (heap_call hC1 h6)
        have h7 : w1.heap[w.heap.size + 1 + 1 + 1 + 1]? = some (.cells (numC X) 51 (0, 0)) := (heap_call hC1 h7)
        have hB1 : Hid (Below w.heap.size w w1) := Lib.hid (below_call HB.out hC1)
        clear hC1
        go_wp2_with (first
          | ((with_reducible refine at_store 7 ?_); refine wpList_store_row rfl 51 _ _ rfl (w.heap.size + 1 + 1 + 1 + 1) (numC Y) rfl rfl 51 (numC X) h7 (infoNum_of (numC Y) (numC_size _)) ((numC_size _).trans (numC_size _).symm) (numC_one _) ?_)
          | ((with_reducible refine at_dst 18 ?_); refine wpList_load_row rfl 51 _ rfl (w.heap.size + 1) rfl 51 (numC b) (0, 0) _ (heap_row _ (by omega) h4) underNum rfl (infoNum_of (numC b) (numC_size _)) ?_))
        refine (bit_false b j (by omega) hbit _).mono ?_
        rintro e w2 ⟨rfl, hC2⟩
        have hs2 : w1.heap.size ≤ w2.heap.size := by have := hC2.size; (try simp only [alloc_size, setRow_size] at this); omega
        have h3 : w2.heap[w.heap.size]? = some (.cells (numC a) 51 (0, 0)) := (heap_call hC2 (heap_row _ (by omega) h3))
        have h4 : w2.heap[w.heap.size + 1]? = some (.cells (numC b) 51 (0, 0)) := (heap_call hC2 (heap_row _ (by omega) h4))
        have h5 : w2.heap[w.heap.size + 1 + 1]? = some (.cells (numC m) 51 (0, 0)) := (heap_call hC2 (heap_row _ (by omega) h5))
        have h6 : w2.heap[w.heap.size + 1 + 1 + 1]? = some (.cells (z4) 51 (0, 0)) := (heap_call hC2 (heap_row _ (by omega) h6))
        have h7 : w2.heap[w.heap.size + 1 + 1 + 1 + 1]? = some (.cells (numC Y) 51 (0, 0)) := (heap_call hC2 (setRow_heap _ _ _ _ _ _ h7))
        have hB2 : Hid (Below w.heap.size w w2) := Lib.hid (below_call (below_setRow hB1.out (by omega) _) hC2)
        clear hC2
        go_wp2
        go_roundw
        case rel =>
          exact ⟨j, _, by omega, by go_num, Lib.hid (by rw [HY.out, HX.out]; exact times_step0 a b m j hbit), Lib.hid h3, Lib.hid h4, Lib.hid h5, Lib.hid h6, Lib.hid h7, Lib.hid hB2.out⟩
        case measure => simp [intOf]

end Go.Proofs.Ytkecocibfmhdpaa
