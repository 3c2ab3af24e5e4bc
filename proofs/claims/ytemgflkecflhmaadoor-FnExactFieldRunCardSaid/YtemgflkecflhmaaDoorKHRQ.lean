/- The reference's squares. -/
import Derived.LoopTactic
import Derived.Test.YtemgflkecflhmaaDoorKL0
import Derived.Test.YtemgflkecflhmaaDoorKL3
set_option maxRecDepth 4000
set_option linter.unusedSimpArgs false
set_option linter.unusedVariables false
namespace Go.Proofs.YtemgflkecflhmaaDoor
open Go.RowKit

set_option maxHeartbeats 4000000 in
theorem squares_any (a n R : Nat) (la : a < pF) (hn : n ≤ 4611686018427387904) (hR : Hid (R = xp a (2 ^ n))) (w : World) :
    Calls Tryd.prog 46 #[.agg (numC a), .int .i64 (n : Int)] w fun e w' => e = .returned (.agg (numC R)) ∧ Below w.heap.size w w' := by
  go_enter Tryd.func46, Tryd.ntmps46
  go_wp2
  go_loopw [5] (fun i wr => ∃ k X : Nat, k ≤ n ∧ i = .int .i64 (k : Int) ∧ Hid (X = xp a (2 ^ k)) ∧ Hid (wr.heap[w.heap.size]? = some (.cells (numC X) 42 (0, 0))) ∧ Hid (wr.heap[w.heap.size + 1]? = some (.cells (z4) 42 (0, 0))) ∧ Hid (Below w.heap.size w wr)) (fun i _ => n - (intOf i).toNat)
  case atStart =>
    exact ⟨0, a, by omega, rfl, Lib.hid (by rw [Nat.pow_zero, xp_one a la]), Lib.hid (heap_old _ (heap_new_at _ _ _ rfl)), Lib.hid (heap_new_at _ _ _ (by simp only [alloc_size, setRow_size])), Lib.hid (below_alloc (below_alloc (Below.refl _ w) _) _)⟩
  case round =>
    obtain ⟨k, X, hk, rfl, HX, H2, H4, HB⟩ := hrel
    have h2 := H2.out
    have h4 := H4.out
    clear H2 H4
    have lX : X < pF := by rw [HX.out]; exact xp_lt _ _
    have hs0 : w.heap.size ≤ wr.heap.size := HB.out.size
    have hu2 := heap_lt h2
    have hu4 := heap_lt h4
    by_cases hlt : k < n
    · obtain ⟨Y, qY⟩ : ∃ u : Nat, u = X * X % pF := ⟨_, rfl⟩
      have HY := Lib.hid qY; clear qY
      go_wp2_with fail
      try simp only [Act.put]
      refine wp_named ?_
      intro w1 ew1
      have hs1 : wr.heap.size ≤ w1.heap.size := by rw [ew1]; (try simp only [alloc_size, setRow_size]); omega
      replace h2 : w1.heap[w.heap.size]? = some (.cells (numC X) 42 (0, 0)) := by rw [ew1]; exact h2
      replace h4 : w1.heap[w.heap.size + 1]? = some (.cells (z4) 42 (0, 0)) := by rw [ew1]; exact h4
      have hBw1 : Hid (Below w.heap.size w w1) := Lib.hid (by rw [ew1]; exact HB.out)
      clear ew1
      refine wp_region_noPanic ?_
      refine wp_region_held_drew (S := Keep (w.heap.size) w1) (by kernel_rfl) (Keep.start _ _) ?_
      intro hS
      obtain ⟨w2, ed⟩ : ∃ u : World, u = w1.drew := ⟨_, rfl⟩
      rw [← ed] at hS ⊢
      have xh2 : w2.heap[w.heap.size]? = some (.cells (numC X) 42 (0, 0)) := by rw [ed]; exact h2
      have xh4 : w2.heap[w.heap.size + 1]? = some (.cells (z4) 42 (0, 0)) := by rw [ed]; exact h4
      clear ed
      have hSz := hS.size
      clear xh4
      refine wpAnyH_ready (rs := [0, 1, 2]) (by kernel_rfl) (by simp) ?_
      refine (AllReadyH.cons rfl ?_ (AllReadyH.cons rfl ?_ (AllReadyH.cons rfl ?_ AllReadyH.nil)))
      · intro K hK
        rw [if_pos (by rfl)]
        refine wp_load_row 42 _ rfl (w.heap.size) rfl _ (numC X) _ _ xh2 underNum rfl (infoNum_of (numC X) (numC_size _)) ?_
        refine put_at (some 11) rfl ?_
        simp only [Act.put, List.setIfInBounds_toArray, List.set_cons_zero, List.set_cons_succ]
        refine hK.out _ _ hS ?_
        clear hK K
        intro _
        have hSz := hS.size
        refine wpAnyH_ready (rs := [1, 2]) (by kernel_rfl) (by simp) ?_
        refine (AllReadyH.cons rfl ?_ (AllReadyH.cons rfl ?_ AllReadyH.nil))
        · intro K hK
          rw [if_pos (by rfl)]
          refine wp_load_row 42 _ rfl (w.heap.size) rfl _ (numC X) _ _ xh2 underNum rfl (infoNum_of (numC X) (numC_size _)) ?_
          refine put_at (some 12) rfl ?_
          simp only [Act.put, List.setIfInBounds_toArray, List.set_cons_zero, List.set_cons_succ]
          refine hK.out _ _ hS ?_
          clear hK K
          intro _
          have hSz := hS.size
          refine wpAnyH_ready (rs := [2]) (by kernel_rfl) (by simp) ?_
          refine (AllReadyH.cons rfl ?_ AllReadyH.nil)
          intro K hK
          refine ready_call rfl (some 13) rfl 36 #[] (by go_simp) ?_
          refine (prime_any _).mono ?_
          rintro e w3 ⟨rfl, hC⟩
          refine ⟨_, rfl, ?_⟩
          simp only [Act.put, List.setIfInBounds_toArray, List.set_cons_zero, List.set_cons_succ]
          have xh2 : w3.heap[w.heap.size]? = some (.cells (numC X) 42 (0, 0)) := (heap_call hC xh2)
          have hS := hS.call hC
          have hz3 := hC.size
          clear hC
          refine hK.out _ _ hS ?_
          clear hK K
          intro _
          have hSz := hS.size
          refine wpAnyH_ready (rs := [3]) (by kernel_rfl) (by simp) ?_
          refine (AllReadyH.cons rfl ?_ AllReadyH.nil)
          intro K hK
          refine ready_call rfl (some 14) rfl 39 #[.agg (numC X), .agg (numC X), .agg (numC pF)] (by go_simp) ?_
          refine (times_to X X pF Y HY lX (Nat.lt_trans lX (by unfold pF; omega)) (by unfold pF; omega) _).mono ?_
          rintro e w4 ⟨rfl, hC⟩
          refine ⟨_, rfl, ?_⟩
          simp only [Act.put, List.setIfInBounds_toArray, List.set_cons_zero, List.set_cons_succ]
          have xh2 : w4.heap[w.heap.size]? = some (.cells (numC X) 42 (0, 0)) := (heap_call hC xh2)
          have hS := hS.call hC
          have hz4 := hC.size
          clear hC
          refine hK.out _ _ hS ?_
          clear hK K
          intro _
          have hSz := hS.size
          refine wpAnyH_ready (rs := [4]) (by kernel_rfl) (by simp) ?_
          refine (AllReadyH.cons rfl ?_ AllReadyH.nil)
          intro K hK
          rw [if_pos (by rfl)]
          refine wp_store_row 42 _ _ rfl (w.heap.size) (numC Y) rfl rfl 42 (numC X) xh2 (infoNum_of (numC Y) (numC_size _)) ((numC_size _).trans (numC_size _).symm) (numC_one _) ?_
          refine put_at (none) rfl ?_
          simp only [Act.put, List.setIfInBounds_toArray, List.set_cons_zero, List.set_cons_succ]
          have xh2 : (w4.setRow (w.heap.size) (numC Y)).heap[w.heap.size]? = some (.cells (numC Y) 42 (0, 0)) := (setRow_heap _ _ _ _ _ _ xh2)
          have hS := hS.store (numC Y)
          generalize w4.setRow (w.heap.size) (numC Y) = w5 at *
          refine hK.out _ _ hS ?_
          clear hK K
          intro _
          have hSz := hS.size
          refine wpAnyH_done (by kernel_rfl) ?_ _
          refine NoPanic.normal ?_
          have hsz := hS.size
          have h4 : w5.heap[w.heap.size + 1]? = some (.cells (z4) 42 (0, 0)) := hS.old h4 (by omega)
          have h2 := xh2
          have hBw5 : Hid (Below w.heap.size w w5) := Lib.hid (hBw1.out.trans (hS.below (by omega) hBw1.out.size))
          clear hS
          go_wp2
          go_roundw
          case rel =>
            exact ⟨k + 1, Y, by omega, by go_num, Lib.hid (by rw [HY.out, HX.out]; exact xp_two a k), Lib.hid h2, Lib.hid h4, Lib.hid hBw5.out⟩
          case measure => simp [intOf]; omega
        · intro K hK
          refine ready_call rfl (some 13) rfl 36 #[] (by go_simp) ?_
          refine (prime_any _).mono ?_
          rintro e w7 ⟨rfl, hC⟩
          refine ⟨_, rfl, ?_⟩
          simp only [Act.put, List.setIfInBounds_toArray, List.set_cons_zero, List.set_cons_succ]
          have xh2 : w7.heap[w.heap.size]? = some (.cells (numC X) 42 (0, 0)) := (heap_call hC xh2)
          have hS := hS.call hC
          have hz7 := hC.size
          clear hC
          refine hK.out _ _ hS ?_
          clear hK K
          intro _
          have hSz := hS.size
          refine wpAnyH_ready (rs := [1]) (by kernel_rfl) (by simp) ?_
          refine (AllReadyH.cons rfl ?_ AllReadyH.nil)
          intro K hK
          rw [if_pos (by rfl)]
          refine wp_load_row 42 _ rfl (w.heap.size) rfl _ (numC X) _ _ xh2 underNum rfl (infoNum_of (numC X) (numC_size _)) ?_
          refine put_at (some 12) rfl ?_
          simp only [Act.put, List.setIfInBounds_toArray, List.set_cons_zero, List.set_cons_succ]
          refine hK.out _ _ hS ?_
          clear hK K
          intro _
          have hSz := hS.size
          refine wpAnyH_ready (rs := [3]) (by kernel_rfl) (by simp) ?_
          refine (AllReadyH.cons rfl ?_ AllReadyH.nil)
          intro K hK
          refine ready_call rfl (some 14) rfl 39 #[.agg (numC X), .agg (numC X), .agg (numC pF)] (by go_simp) ?_
          refine (times_to X X pF Y HY lX (Nat.lt_trans lX (by unfold pF; omega)) (by unfold pF; omega) _).mono ?_
          rintro e w8 ⟨rfl, hC⟩
          refine ⟨_, rfl, ?_⟩
          simp only [Act.put, List.setIfInBounds_toArray, List.set_cons_zero, List.set_cons_succ]
          have xh2 : w8.heap[w.heap.size]? = some (.cells (numC X) 42 (0, 0)) := (heap_call hC xh2)
          have hS := hS.call hC
          have hz8 := hC.size
          clear hC
          refine hK.out _ _ hS ?_
          clear hK K
          intro _
          have hSz := hS.size
          refine wpAnyH_ready (rs := [4]) (by kernel_rfl) (by simp) ?_
          refine (AllReadyH.cons rfl ?_ AllReadyH.nil)
          intro K hK
          rw [if_pos (by rfl)]
          refine wp_store_row 42 _ _ rfl (w.heap.size) (numC Y) rfl rfl 42 (numC X) xh2 (infoNum_of (numC Y) (numC_size _)) ((numC_size _).trans (numC_size _).symm) (numC_one _) ?_
          refine put_at (none) rfl ?_
          simp only [Act.put, List.setIfInBounds_toArray, List.set_cons_zero, List.set_cons_succ]
          have xh2 : (w8.setRow (w.heap.size) (numC Y)).heap[w.heap.size]? = some (.cells (numC Y) 42 (0, 0)) := (setRow_heap _ _ _ _ _ _ xh2)
          have hS := hS.store (numC Y)
          generalize w8.setRow (w.heap.size) (numC Y) = w9 at *
          refine hK.out _ _ hS ?_
          clear hK K
          intro _
          have hSz := hS.size
          refine wpAnyH_done (by kernel_rfl) ?_ _
          refine NoPanic.normal ?_
          have hsz := hS.size
          have h4 : w9.heap[w.heap.size + 1]? = some (.cells (z4) 42 (0, 0)) := hS.old h4 (by omega)
          have h2 := xh2
          have hBw9 : Hid (Below w.heap.size w w9) := Lib.hid (hBw1.out.trans (hS.below (by omega) hBw1.out.size))
          clear hS
          go_wp2
          go_roundw
          case rel =>
            exact ⟨k + 1, Y, by omega, by go_num, Lib.hid (by rw [HY.out, HX.out]; exact xp_two a k), Lib.hid h2, Lib.hid h4, Lib.hid hBw9.out⟩
          case measure => simp [intOf]; omega
      · intro K hK
        rw [if_pos (by rfl)]
        refine wp_load_row 42 _ rfl (w.heap.size) rfl _ (numC X) _ _ xh2 underNum rfl (infoNum_of (numC X) (numC_size _)) ?_
        refine put_at (some 12) rfl ?_
        simp only [Act.put, List.setIfInBounds_toArray, List.set_cons_zero, List.set_cons_succ]
        refine hK.out _ _ hS ?_
        clear hK K
        intro _
        have hSz := hS.size
        refine wpAnyH_ready (rs := [0, 2]) (by kernel_rfl) (by simp) ?_
        refine (AllReadyH.cons rfl ?_ (AllReadyH.cons rfl ?_ AllReadyH.nil))
        · intro K hK
          rw [if_pos (by rfl)]
          refine wp_load_row 42 _ rfl (w.heap.size) rfl _ (numC X) _ _ xh2 underNum rfl (infoNum_of (numC X) (numC_size _)) ?_
          refine put_at (some 11) rfl ?_
          simp only [Act.put, List.setIfInBounds_toArray, List.set_cons_zero, List.set_cons_succ]
          refine hK.out _ _ hS ?_
          clear hK K
          intro _
          have hSz := hS.size
          refine wpAnyH_ready (rs := [2]) (by kernel_rfl) (by simp) ?_
          refine (AllReadyH.cons rfl ?_ AllReadyH.nil)
          intro K hK
          refine ready_call rfl (some 13) rfl 36 #[] (by go_simp) ?_
          refine (prime_any _).mono ?_
          rintro e w11 ⟨rfl, hC⟩
          refine ⟨_, rfl, ?_⟩
          simp only [Act.put, List.setIfInBounds_toArray, List.set_cons_zero, List.set_cons_succ]
          have xh2 : w11.heap[w.heap.size]? = some (.cells (numC X) 42 (0, 0)) := (heap_call hC xh2)
          have hS := hS.call hC
          have hz11 := hC.size
          clear hC
          refine hK.out _ _ hS ?_
          clear hK K
          intro _
          have hSz := hS.size
          refine wpAnyH_ready (rs := [3]) (by kernel_rfl) (by simp) ?_
          refine (AllReadyH.cons rfl ?_ AllReadyH.nil)
          intro K hK
          refine ready_call rfl (some 14) rfl 39 #[.agg (numC X), .agg (numC X), .agg (numC pF)] (by go_simp) ?_
          refine (times_to X X pF Y HY lX (Nat.lt_trans lX (by unfold pF; omega)) (by unfold pF; omega) _).mono ?_
          rintro e w12 ⟨rfl, hC⟩
          refine ⟨_, rfl, ?_⟩
          simp only [Act.put, List.setIfInBounds_toArray, List.set_cons_zero, List.set_cons_succ]
          have xh2 : w12.heap[w.heap.size]? = some (.cells (numC X) 42 (0, 0)) := (heap_call hC xh2)
          have hS := hS.call hC
          have hz12 := hC.size
          clear hC
          refine hK.out _ _ hS ?_
          clear hK K
          intro _
          have hSz := hS.size
          refine wpAnyH_ready (rs := [4]) (by kernel_rfl) (by simp) ?_
          refine (AllReadyH.cons rfl ?_ AllReadyH.nil)
          intro K hK
          rw [if_pos (by rfl)]
          refine wp_store_row 42 _ _ rfl (w.heap.size) (numC Y) rfl rfl 42 (numC X) xh2 (infoNum_of (numC Y) (numC_size _)) ((numC_size _).trans (numC_size _).symm) (numC_one _) ?_
          refine put_at (none) rfl ?_
          simp only [Act.put, List.setIfInBounds_toArray, List.set_cons_zero, List.set_cons_succ]
          have xh2 : (w12.setRow (w.heap.size) (numC Y)).heap[w.heap.size]? = some (.cells (numC Y) 42 (0, 0)) := (setRow_heap _ _ _ _ _ _ xh2)
          have hS := hS.store (numC Y)
          generalize w12.setRow (w.heap.size) (numC Y) = w13 at *
          refine hK.out _ _ hS ?_
          clear hK K
          intro _
          have hSz := hS.size
          refine wpAnyH_done (by kernel_rfl) ?_ _
          refine NoPanic.normal ?_
          have hsz := hS.size
          have h4 : w13.heap[w.heap.size + 1]? = some (.cells (z4) 42 (0, 0)) := hS.old h4 (by omega)
          have h2 := xh2
          have hBw13 : Hid (Below w.heap.size w w13) := Lib.hid (hBw1.out.trans (hS.below (by omega) hBw1.out.size))
          clear hS
          go_wp2
          go_roundw
          case rel =>
            exact ⟨k + 1, Y, by omega, by go_num, Lib.hid (by rw [HY.out, HX.out]; exact xp_two a k), Lib.hid h2, Lib.hid h4, Lib.hid hBw13.out⟩
          case measure => simp [intOf]; omega
        · intro K hK
          refine ready_call rfl (some 13) rfl 36 #[] (by go_simp) ?_
          refine (prime_any _).mono ?_
          rintro e w15 ⟨rfl, hC⟩
          refine ⟨_, rfl, ?_⟩
          simp only [Act.put, List.setIfInBounds_toArray, List.set_cons_zero, List.set_cons_succ]
          have xh2 : w15.heap[w.heap.size]? = some (.cells (numC X) 42 (0, 0)) := (heap_call hC xh2)
          have hS := hS.call hC
          have hz15 := hC.size
          clear hC
          refine hK.out _ _ hS ?_
          clear hK K
          intro _
          have hSz := hS.size
          refine wpAnyH_ready (rs := [0]) (by kernel_rfl) (by simp) ?_
          refine (AllReadyH.cons rfl ?_ AllReadyH.nil)
          intro K hK
          rw [if_pos (by rfl)]
          refine wp_load_row 42 _ rfl (w.heap.size) rfl _ (numC X) _ _ xh2 underNum rfl (infoNum_of (numC X) (numC_size _)) ?_
          refine put_at (some 11) rfl ?_
          simp only [Act.put, List.setIfInBounds_toArray, List.set_cons_zero, List.set_cons_succ]
          refine hK.out _ _ hS ?_
          clear hK K
          intro _
          have hSz := hS.size
          refine wpAnyH_ready (rs := [3]) (by kernel_rfl) (by simp) ?_
          refine (AllReadyH.cons rfl ?_ AllReadyH.nil)
          intro K hK
          refine ready_call rfl (some 14) rfl 39 #[.agg (numC X), .agg (numC X), .agg (numC pF)] (by go_simp) ?_
          refine (times_to X X pF Y HY lX (Nat.lt_trans lX (by unfold pF; omega)) (by unfold pF; omega) _).mono ?_
          rintro e w16 ⟨rfl, hC⟩
          refine ⟨_, rfl, ?_⟩
          simp only [Act.put, List.setIfInBounds_toArray, List.set_cons_zero, List.set_cons_succ]
          have xh2 : w16.heap[w.heap.size]? = some (.cells (numC X) 42 (0, 0)) := (heap_call hC xh2)
          have hS := hS.call hC
          have hz16 := hC.size
          clear hC
          refine hK.out _ _ hS ?_
          clear hK K
          intro _
          have hSz := hS.size
          refine wpAnyH_ready (rs := [4]) (by kernel_rfl) (by simp) ?_
          refine (AllReadyH.cons rfl ?_ AllReadyH.nil)
          intro K hK
          rw [if_pos (by rfl)]
          refine wp_store_row 42 _ _ rfl (w.heap.size) (numC Y) rfl rfl 42 (numC X) xh2 (infoNum_of (numC Y) (numC_size _)) ((numC_size _).trans (numC_size _).symm) (numC_one _) ?_
          refine put_at (none) rfl ?_
          simp only [Act.put, List.setIfInBounds_toArray, List.set_cons_zero, List.set_cons_succ]
          have xh2 : (w16.setRow (w.heap.size) (numC Y)).heap[w.heap.size]? = some (.cells (numC Y) 42 (0, 0)) := (setRow_heap _ _ _ _ _ _ xh2)
          have hS := hS.store (numC Y)
          generalize w16.setRow (w.heap.size) (numC Y) = w17 at *
          refine hK.out _ _ hS ?_
          clear hK K
          intro _
          have hSz := hS.size
          refine wpAnyH_done (by kernel_rfl) ?_ _
          refine NoPanic.normal ?_
          have hsz := hS.size
          have h4 : w17.heap[w.heap.size + 1]? = some (.cells (z4) 42 (0, 0)) := hS.old h4 (by omega)
          have h2 := xh2
          have hBw17 : Hid (Below w.heap.size w w17) := Lib.hid (hBw1.out.trans (hS.below (by omega) hBw1.out.size))
          clear hS
          go_wp2
          go_roundw
          case rel =>
            exact ⟨k + 1, Y, by omega, by go_num, Lib.hid (by rw [HY.out, HX.out]; exact xp_two a k), Lib.hid h2, Lib.hid h4, Lib.hid hBw17.out⟩
          case measure => simp [intOf]; omega
      · intro K hK
        refine ready_call rfl (some 13) rfl 36 #[] (by go_simp) ?_
        refine (prime_any _).mono ?_
        rintro e w19 ⟨rfl, hC⟩
        refine ⟨_, rfl, ?_⟩
        simp only [Act.put, List.setIfInBounds_toArray, List.set_cons_zero, List.set_cons_succ]
        have xh2 : w19.heap[w.heap.size]? = some (.cells (numC X) 42 (0, 0)) := (heap_call hC xh2)
        have hS := hS.call hC
        have hz19 := hC.size
        clear hC
        refine hK.out _ _ hS ?_
        clear hK K
        intro _
        have hSz := hS.size
        refine wpAnyH_ready (rs := [0, 1]) (by kernel_rfl) (by simp) ?_
        refine (AllReadyH.cons rfl ?_ (AllReadyH.cons rfl ?_ AllReadyH.nil))
        · intro K hK
          rw [if_pos (by rfl)]
          refine wp_load_row 42 _ rfl (w.heap.size) rfl _ (numC X) _ _ xh2 underNum rfl (infoNum_of (numC X) (numC_size _)) ?_
          refine put_at (some 11) rfl ?_
          simp only [Act.put, List.setIfInBounds_toArray, List.set_cons_zero, List.set_cons_succ]
          refine hK.out _ _ hS ?_
          clear hK K
          intro _
          have hSz := hS.size
          refine wpAnyH_ready (rs := [1]) (by kernel_rfl) (by simp) ?_
          refine (AllReadyH.cons rfl ?_ AllReadyH.nil)
          intro K hK
          rw [if_pos (by rfl)]
          refine wp_load_row 42 _ rfl (w.heap.size) rfl _ (numC X) _ _ xh2 underNum rfl (infoNum_of (numC X) (numC_size _)) ?_
          refine put_at (some 12) rfl ?_
          simp only [Act.put, List.setIfInBounds_toArray, List.set_cons_zero, List.set_cons_succ]
          refine hK.out _ _ hS ?_
          clear hK K
          intro _
          have hSz := hS.size
          refine wpAnyH_ready (rs := [3]) (by kernel_rfl) (by simp) ?_
          refine (AllReadyH.cons rfl ?_ AllReadyH.nil)
          intro K hK
          refine ready_call rfl (some 14) rfl 39 #[.agg (numC X), .agg (numC X), .agg (numC pF)] (by go_simp) ?_
          refine (times_to X X pF Y HY lX (Nat.lt_trans lX (by unfold pF; omega)) (by unfold pF; omega) _).mono ?_
          rintro e w20 ⟨rfl, hC⟩
          refine ⟨_, rfl, ?_⟩
          simp only [Act.put, List.setIfInBounds_toArray, List.set_cons_zero, List.set_cons_succ]
          have xh2 : w20.heap[w.heap.size]? = some (.cells (numC X) 42 (0, 0)) := (heap_call hC xh2)
          have hS := hS.call hC
          have hz20 := hC.size
          clear hC
          refine hK.out _ _ hS ?_
          clear hK K
          intro _
          have hSz := hS.size
          refine wpAnyH_ready (rs := [4]) (by kernel_rfl) (by simp) ?_
          refine (AllReadyH.cons rfl ?_ AllReadyH.nil)
          intro K hK
          rw [if_pos (by rfl)]
          refine wp_store_row 42 _ _ rfl (w.heap.size) (numC Y) rfl rfl 42 (numC X) xh2 (infoNum_of (numC Y) (numC_size _)) ((numC_size _).trans (numC_size _).symm) (numC_one _) ?_
          refine put_at (none) rfl ?_
          simp only [Act.put, List.setIfInBounds_toArray, List.set_cons_zero, List.set_cons_succ]
          have xh2 : (w20.setRow (w.heap.size) (numC Y)).heap[w.heap.size]? = some (.cells (numC Y) 42 (0, 0)) := (setRow_heap _ _ _ _ _ _ xh2)
          have hS := hS.store (numC Y)
          generalize w20.setRow (w.heap.size) (numC Y) = w21 at *
          refine hK.out _ _ hS ?_
          clear hK K
          intro _
          have hSz := hS.size
          refine wpAnyH_done (by kernel_rfl) ?_ _
          refine NoPanic.normal ?_
          have hsz := hS.size
          have h4 : w21.heap[w.heap.size + 1]? = some (.cells (z4) 42 (0, 0)) := hS.old h4 (by omega)
          have h2 := xh2
          have hBw21 : Hid (Below w.heap.size w w21) := Lib.hid (hBw1.out.trans (hS.below (by omega) hBw1.out.size))
          clear hS
          go_wp2
          go_roundw
          case rel =>
            exact ⟨k + 1, Y, by omega, by go_num, Lib.hid (by rw [HY.out, HX.out]; exact xp_two a k), Lib.hid h2, Lib.hid h4, Lib.hid hBw21.out⟩
          case measure => simp [intOf]; omega
        · intro K hK
          rw [if_pos (by rfl)]
          refine wp_load_row 42 _ rfl (w.heap.size) rfl _ (numC X) _ _ xh2 underNum rfl (infoNum_of (numC X) (numC_size _)) ?_
          refine put_at (some 12) rfl ?_
          simp only [Act.put, List.setIfInBounds_toArray, List.set_cons_zero, List.set_cons_succ]
          refine hK.out _ _ hS ?_
          clear hK K
          intro _
          have hSz := hS.size
          refine wpAnyH_ready (rs := [0]) (by kernel_rfl) (by simp) ?_
          refine (AllReadyH.cons rfl ?_ AllReadyH.nil)
          intro K hK
          rw [if_pos (by rfl)]
          refine wp_load_row 42 _ rfl (w.heap.size) rfl _ (numC X) _ _ xh2 underNum rfl (infoNum_of (numC X) (numC_size _)) ?_
          refine put_at (some 11) rfl ?_
          simp only [Act.put, List.setIfInBounds_toArray, List.set_cons_zero, List.set_cons_succ]
          refine hK.out _ _ hS ?_
          clear hK K
          intro _
          have hSz := hS.size
          refine wpAnyH_ready (rs := [3]) (by kernel_rfl) (by simp) ?_
          refine (AllReadyH.cons rfl ?_ AllReadyH.nil)
          intro K hK
          refine ready_call rfl (some 14) rfl 39 #[.agg (numC X), .agg (numC X), .agg (numC pF)] (by go_simp) ?_
          refine (times_to X X pF Y HY lX (Nat.lt_trans lX (by unfold pF; omega)) (by unfold pF; omega) _).mono ?_
          rintro e w23 ⟨rfl, hC⟩
          refine ⟨_, rfl, ?_⟩
          simp only [Act.put, List.setIfInBounds_toArray, List.set_cons_zero, List.set_cons_succ]
          have xh2 : w23.heap[w.heap.size]? = some (.cells (numC X) 42 (0, 0)) := (heap_call hC xh2)
          have hS := hS.call hC
          have hz23 := hC.size
          clear hC
          refine hK.out _ _ hS ?_
          clear hK K
          intro _
          have hSz := hS.size
          refine wpAnyH_ready (rs := [4]) (by kernel_rfl) (by simp) ?_
          refine (AllReadyH.cons rfl ?_ AllReadyH.nil)
          intro K hK
          rw [if_pos (by rfl)]
          refine wp_store_row 42 _ _ rfl (w.heap.size) (numC Y) rfl rfl 42 (numC X) xh2 (infoNum_of (numC Y) (numC_size _)) ((numC_size _).trans (numC_size _).symm) (numC_one _) ?_
          refine put_at (none) rfl ?_
          simp only [Act.put, List.setIfInBounds_toArray, List.set_cons_zero, List.set_cons_succ]
          have xh2 : (w23.setRow (w.heap.size) (numC Y)).heap[w.heap.size]? = some (.cells (numC Y) 42 (0, 0)) := (setRow_heap _ _ _ _ _ _ xh2)
          have hS := hS.store (numC Y)
          generalize w23.setRow (w.heap.size) (numC Y) = w24 at *
          refine hK.out _ _ hS ?_
          clear hK K
          intro _
          have hSz := hS.size
          refine wpAnyH_done (by kernel_rfl) ?_ _
          refine NoPanic.normal ?_
          have hsz := hS.size
          have h4 : w24.heap[w.heap.size + 1]? = some (.cells (z4) 42 (0, 0)) := hS.old h4 (by omega)
          have h2 := xh2
          have hBw24 : Hid (Below w.heap.size w w24) := Lib.hid (hBw1.out.trans (hS.below (by omega) hBw1.out.size))
          clear hS
          go_wp2
          go_roundw
          case rel =>
            exact ⟨k + 1, Y, by omega, by go_num, Lib.hid (by rw [HY.out, HX.out]; exact xp_two a k), Lib.hid h2, Lib.hid h4, Lib.hid hBw24.out⟩
          case measure => simp [intOf]; omega
    · obtain rfl : k = n := by omega
      obtain rfl : X = R := by rw [HX.out, hR.out]
      go_wp2_with (first
        | ((with_reducible refine at_dst 15 ?_); refine wpList_load_row rfl 42 _ rfl (w.heap.size) rfl 42 (numC X) (0, 0) _ h2 underNum rfl (infoNum_of (numC X) (numC_size _)) ?_)
        | ((with_reducible refine at_store 4 ?_); refine wpList_store_row rfl 42 _ _ rfl (w.heap.size + 1) (numC X) rfl rfl 42 (z4) h4 (infoNum_of (numC X) (numC_size _)) (z4_size.trans (numC_size _).symm) (numC_one _) ?_))
      refine bodyPost_ret (results_cell_row rfl _ _ (w.heap.size + 1) 42 (numC X) (0, 0) _ rfl (setRow_heap _ _ _ _ _ _ h4) underNum rfl (infoNum_of (numC X) (numC_size _))) rfl ⟨rfl, (below_setRow HB.out (by omega) _)⟩
end Go.Proofs.YtemgflkecflhmaaDoor
