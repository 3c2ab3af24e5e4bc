/- The reference's numbers: small, prime, octets, reduced, element. -/
import Derived.Test.YtemgflkecflhmaaDoorKL2
set_option maxRecDepth 4000
set_option linter.unusedSimpArgs false
set_option linter.unusedVariables false
namespace Go.Proofs.YtemgflkecflhmaaDoor
open Go.RowKit

theorem four_num (n a0 a1 a2 a3 : Nat) (h0 : wordN n 0 = a0) (h1 : wordN n 1 = a1) (h2 : wordN n 2 = a2) (h3 : wordN n 3 = a3) :
    (#[.int .u64 (a0 : Int), .int .u64 (a1 : Int), .int .u64 (a2 : Int), .int .u64 (a3 : Int)] : Array Value) = numC n := by
  refine num_ext n _ rfl fun i hi => ?_
  have : i = 0 ∨ i = 1 ∨ i = 2 ∨ i = 3 := by omega
  unfold woV
  rcases this with rfl | rfl | rfl | rfl
  · rw [h0]; rfl
  · rw [h1]; rfl
  · rw [h2]; rfl
  · rw [h3]; rfl

theorem small_any (n : Nat) (hn : n < 18446744073709551616) (w : World) : Calls Tryd.prog 41 #[.int .u64 (n : Int)] w fun e w' => e = .returned (.agg (numC n)) ∧ Below w.heap.size w w' := by
  go_enter Tryd.func41, Tryd.ntmps41
  go_wp2
  refine bodyPost_ret (results_cell_row rfl _ _ w.heap.size 42 #[.int .u64 (n : Int), .int .u64 0, .int .u64 0, .int .u64 0] (0, 0) _ rfl (heap_new w _) underNum rfl infoNum) rfl ⟨?_, (Below.refl _ w).alloc (Nat.le_refl _) _⟩
  rw [← four_num n n 0 0 0 (by unfold wordN; omega) (by unfold wordN; omega) (by unfold wordN; omega) (by unfold wordN; omega)]
  rfl

theorem prime_any (w : World) : Calls Tryd.prog 36 #[] w fun e w' => e = .returned (.agg (numC pF)) ∧ Below w.heap.size w w' := by
  go_enter Tryd.func36, Tryd.ntmps36
  go_wp2
  refine bodyPost_ret (results_cell_row rfl _ _ w.heap.size 42 #[.int .u64 18446744073709551597, .int .u64 18446744073709551615, .int .u64 18446744073709551615, .int .u64 9223372036854775807] (0, 0) _ rfl (heap_new w _) underNum rfl infoNum) rfl ⟨?_, (Below.refl _ w).alloc (Nat.le_refl _) _⟩
  rw [← four_num pF 18446744073709551597 18446744073709551615 18446744073709551615 9223372036854775807 (by unfold wordN pF; omega) (by unfold wordN pF; omega) (by unfold wordN pF; omega) (by unfold wordN pF; omega)]
  rfl

theorem word_byte (a i : Nat) : wordN a (i / 8) / 2 ^ (8 * (i % 8)) % 256 = byteN a i := by
  unfold wordN byteN
  have e1 : (18446744073709551616 : Nat) = 2 ^ (8 * (i % 8)) * 2 ^ (64 - 8 * (i % 8)) := by
    rw [← Nat.pow_add, show 8 * (i % 8) + (64 - 8 * (i % 8)) = 64 by omega]
  have e2 : a / 18446744073709551616 ^ (i / 8) % 18446744073709551616 / 2 ^ (8 * (i % 8)) = a / 18446744073709551616 ^ (i / 8) / 2 ^ (8 * (i % 8)) % 2 ^ (64 - 8 * (i % 8)) := by
    generalize a / 18446744073709551616 ^ (i / 8) = A
    rw [e1, Nat.mod_mul_right_div_self]
  rw [e2, Nat.mod_mod_of_dvd _ (show 256 ∣ 2 ^ (64 - 8 * (i % 8)) from ⟨2 ^ (64 - 8 * (i % 8) - 8), by rw [show (256 : Nat) = 2 ^ 8 from rfl, ← Nat.pow_add]; congr 1; omega⟩), Nat.div_div_eq_div_mul]
  congr 2
  rw [show (18446744073709551616 : Nat) = 2 ^ 64 from rfl, show (256 : Nat) = 2 ^ 8 from rfl, ← Nat.pow_mul, ← Nat.pow_mul, ← Nat.pow_add]
  congr 1; omega

set_option maxHeartbeats 1000000 in
theorem octets_any (a : Nat) (w : World) : Calls Tryd.prog 16 #[.agg (numC a)] w fun e w' => e = .returned (.agg (arrC a)) ∧ Below w.heap.size w w' := by
  go_enter Tryd.func16, Tryd.ntmps16
  go_wp2_with (first
    | ((with_reducible refine at_store 3 ?_); refine wpList_store_row rfl 27 _ _ rfl (w.heap.size + 1 + 1) zL rfl rfl 27 zL (heap_new_at _ _ _ (by simp only [alloc_size])) info32 rfl zL_one ?_))
  refine wp_named ?_
  intro w1 hw1
  have h0 : w1.heap[w.heap.size]? = some (.cells (numC a) 42 (0, 0)) := by rw [hw1]; exact heap_row _ (by omega) (heap_old _ (heap_old _ (heap_new_at _ _ _ rfl)))
  have h1 : w1.heap[w.heap.size + 1]? = some (.cells zL 27 (0, 0)) := by rw [hw1]; exact heap_row _ (by omega) (heap_old _ (heap_new_at _ _ _ (by simp only [alloc_size])))
  have h2 : w1.heap[w.heap.size + 1 + 1]? = some (.cells zL 27 (0, 0)) := by rw [hw1]; exact setRow_heap _ _ _ _ _ _ (heap_new_at _ _ _ (by simp only [alloc_size]))
  have hB := Lib.hid (show Below w.heap.size w w1 by rw [hw1]; exact below_setRow (below_alloc (below_alloc (below_alloc (Below.refl _ w) _) _) _) (by omega) _)
  have hs1 : w.heap.size + 3 ≤ w1.heap.size := by rw [hw1]; simp only [alloc_size, setRow_size]; omega
  clear hw1
  rw [zL_arrC] at h1 h2
  have r0 := Lib.hid (Row.ofNum h0); have r2 := Lib.hid (Row.ofArr h2)
  have H1 := Lib.hid h1; have H2 := Lib.hid h2
  clear h0 h1 h2
  go_loopw [4] (fun i wr => ∃ k : Nat, k ≤ 32 ∧ i = .int .i64 (k : Int) ∧ Hid (Wr w1 wr (w.heap.size + 1 + 1) 0 32 (fun j => if j < k then byV a j else byV 0 j))) (fun i _ => 32 - (intOf i).toNat)
  case atStart =>
    exact ⟨0, by omega, rfl, Lib.hid ((Wr.start r2.out).congr fun i _ => by simp)⟩
  case round =>
    obtain ⟨k, hk, rfl, hw⟩ := hrel
    by_cases hlt : k < 32
    · have a0 := ((hw.out.others r0.out (Or.inl (by omega))).cell (i := k / 8) (by omega))
      have f2 := (hw.out.row r2.out).frozen (i := k) hlt
      have c2 := (hw.out.row r2.out).cell (i := k) hlt
      simp only [Nat.zero_add] at a0 f2 c2
      rw [if_neg (by omega)] at c2
      unfold woV at a0
      have hb := wordN_lt a (k / 8)
      have hX := Lib.hid (word_byte a k)
      generalize wordN a (k / 8) = X at *
      go_wp2
      go_roundw
      case rel =>
        refine ⟨k + 1, by omega, by go_num, Lib.hid ?_⟩
        have h9 := hw.out.set k (.int .u8 ((X : Int) / 2 ^ (8 * (k % 8)) % 256)) hlt
        rw [Nat.zero_add] at h9
        refine h9.congr fun j hj => ?_
        by_cases hjk : j = k
        · subst hjk
          rw [if_pos (by omega), if_pos rfl]
          unfold byV
          rw [← hX.out]
          congr 1
        · rw [if_neg hjk]
          by_cases h3 : j < k
          · rw [if_pos (by omega), if_pos h3]
          · rw [if_neg (by omega), if_neg h3]
      case measure => simp [intOf]; omega
    · have hw' : Wr w1 wr (w.heap.size + 1 + 1) 0 32 (byV a) := hw.out.congr fun j hj => by rw [if_pos (by omega)]
      have hl := hw'.arr H2.out (arrC_size 0)
      have hs := (hw'.other (w.heap.size + 1) (by omega) (by omega)).trans H1.out
      have hBw := Lib.hid (hB.out.trans (hw'.below (B := w.heap.size) (by omega) hB.out.size))
      clear hw' hw
      go_wp2_with (first
        | ((with_reducible refine at_dst 21 ?_); refine wpList_load_row rfl 27 _ rfl (w.heap.size + 1 + 1) rfl 27 (arrC a) (0, 0) _ hl under32 rfl (info32_of _ (arrC_size _)) ?_)
        | ((with_reducible refine at_store 2 ?_); refine wpList_store_row rfl 27 _ _ rfl (w.heap.size + 1) (arrC a) rfl rfl 27 (arrC 0) hs (info32_of _ (arrC_size _)) (by rw [arrC_size, arrC_size]) (arrC_one _) ?_))
      refine bodyPost_ret (results_cell_row rfl _ _ (w.heap.size + 1) 27 (arrC a) (0, 0) _ rfl (setRow_heap _ _ _ _ _ _ hs) under32 rfl (info32_of _ (arrC_size _))) rfl ⟨rfl, below_setRow hBw.out (by omega) _⟩


theorem byte_bit (N i k : Nat) (hk : k < 8) : byteN N i / 2 ^ k % 2 = N / 2 ^ (8 * i + k) % 2 := by
  unfold byteN
  have e1 : (256 : Nat) = 2 ^ k * 2 ^ (8 - k) := by rw [← Nat.pow_add, show k + (8 - k) = 8 by omega]
  have e2 : N / 256 ^ i % 256 / 2 ^ k = N / 256 ^ i / 2 ^ k % 2 ^ (8 - k) := by
    generalize N / 256 ^ i = A
    rw [e1, Nat.mod_mul_right_div_self]
  rw [e2, Nat.mod_mod_of_dvd _ (show 2 ∣ 2 ^ (8 - k) from ⟨2 ^ (8 - k - 1), by rw [← Nat.pow_succ']; congr 1; omega⟩), Nat.div_div_eq_div_mul]
  congr 2
  rw [show (256 : Nat) = 2 ^ 8 from rfl, ← Nat.pow_mul, ← Nat.pow_add]
theorem bits_and_u8_nat (a b : Nat) (ha : a < 256) (hb : b < 256) : bits .and .u8 (a : Int) (b : Int) = ((a &&& b : Nat) : Int) := by
  have hx : a &&& b < 2 ^ 8 := Nat.and_lt_two_pow _ (by omega)
  have h1 : (BitVec.ofInt 8 (a : Int)).toNat = a := by
    rw [BitVec.ofInt_natCast, BitVec.toNat_ofNat]; exact Nat.mod_eq_of_lt (by omega)
  have h2 : (BitVec.ofInt 8 (b : Int)).toNat = b := by
    rw [BitVec.ofInt_natCast, BitVec.toNat_ofNat]; exact Nat.mod_eq_of_lt (by omega)
  show IntKind.u8.wrap ((BitVec.ofInt 8 (a : Int) &&& BitVec.ofInt 8 (b : Int)).toNat : Int) = _
  rw [BitVec.toNat_and, h1, h2, IntKind.wrap_u8]
  omega
theorem and_one8 (X s : Nat) (h : X < 256) : bits .and .u8 ((X : Int) / 2 ^ s) 1 = ((X / 2 ^ s % 2 : Nat) : Int) := by
  have e : (X : Int) / 2 ^ s = ((X / 2 ^ s : Nat) : Int) := by simp
  have hb : X / 2 ^ s < 256 := Nat.lt_of_le_of_lt (Nat.div_le_self _ _) h
  rw [e]
  refine (bits_and_u8_nat (X / 2 ^ s) 1 hb (by omega)).trans ?_
  rw [Nat.and_one_is_mod]

set_option maxHeartbeats 1000000 in
theorem reduced_any (N n m b off cap : Nat) (hN : N < 2 ^ (8 * n)) (hn : n ≤ 140737488351232) (hm1 : 1 < m) (hm : m < 57896044618658097711785492504343953926634992332820282019728792003956564819968) (w : World) (hR : Row w b off n (byV N)) :
    Calls Tryd.prog 35 #[.slice (some ⟨b, off, none⟩) n cap, .agg (numC m)] w fun e w' => e = .returned (.agg (numC (N % m))) ∧ Below w.heap.size w w' := by
  obtain ⟨F, qF⟩ : ∃ u : Nat, u = N % m := ⟨_, rfl⟩
  rw [← qF]
  have HF := Lib.hid qF; clear qF
  have HR := Lib.hid hR; clear hR
  go_enter Tryd.func35, Tryd.ntmps35
  -- a literal store
  go_wp2_with fail
  go_loopw [6] (fun i wr => ∃ k X : Nat, k ≤ n ∧ i = .int .i64 ((k : Int) - 1) ∧ Hid (X = N / 2 ^ (8 * k) % m) ∧ Hid (wr.heap[w.heap.size]? = some (.cells (numC m) 42 (0, 0))) ∧ Hid (wr.heap[w.heap.size + 1]? = some (.cells (z4) 42 (0, 0))) ∧ Hid (wr.heap[w.heap.size + 1 + 1]? = some (.cells (numC X) 42 (0, 0))) ∧ Hid (Below w.heap.size w wr)) (fun i _ => (intOf i + 1).toNat)
  case atStart =>
    exact ⟨n, 0, by omega, rfl, Lib.hid (by rw [Nat.div_eq_of_lt hN]; simp), Lib.hid (heap_old _ (heap_old _ (heap_new_at _ _ _ rfl))), Lib.hid (heap_old _ (heap_new_at _ _ _ (by simp only [alloc_size, setRow_size]))), Lib.hid (by rw [← z4_num]; exact (heap_new_at _ _ _ (by simp only [alloc_size, setRow_size]))), Lib.hid (below_alloc (below_alloc (below_alloc (Below.refl _ w) _) _) _)⟩
  case round =>
    obtain ⟨k, X, hk, rfl, HX, H3, H4, H5, HB⟩ := hrel
    have h3 := H3.out
    have h4 := H4.out
    have h5 := H5.out
    clear H3 H4 H5
    rcases Nat.eq_zero_or_pos k with rfl | hpos
    · skip
      obtain rfl : X = F := by rw [HX.out, HF.out, Nat.mul_zero, Nat.pow_zero, Nat.div_one]
      go_wp2_with (first
        | ((with_reducible refine at_dst 36 ?_); refine wpList_load_row rfl 42 _ rfl (w.heap.size + 1 + 1) rfl 42 (numC X) (0, 0) _ h5 underNum rfl (infoNum_of (numC X) (numC_size _)) ?_)
        | ((with_reducible refine at_store 4 ?_); refine wpList_store_row rfl 42 _ _ rfl (w.heap.size + 1) (numC X) rfl rfl 42 (z4) h4 (infoNum_of (numC X) (numC_size _)) (z4_size.trans (numC_size _).symm) (numC_one _) ?_))
      refine bodyPost_ret (results_cell_row rfl _ _ (w.heap.size + 1) 42 (numC X) (0, 0) _ rfl (setRow_heap _ _ _ _ _ _ h4) underNum rfl (infoNum_of (numC X) (numC_size _))) rfl ⟨rfl, (below_setRow HB.out (by omega) _)⟩
    · obtain ⟨j, rfl⟩ : ∃ j, k = j + 1 := ⟨k - 1, by omega⟩
      obtain ⟨wo, rfl⟩ : ∃ wo : World, wo = wr := ⟨_, rfl⟩
      rw [show (((j + 1 : Nat) : Int) - 1) = (j : Int) from by omega]
      go_wp2
      go_loopw [7] (fun i wr => ∃ t Y : Nat, t ≤ 8 ∧ i = .int .i64 ((t : Int) - 1) ∧ Hid (Y = N / 2 ^ (8 * j + t) % m) ∧ Hid (wr.heap[w.heap.size]? = some (.cells (numC m) 42 (0, 0))) ∧ Hid (wr.heap[w.heap.size + 1]? = some (.cells (z4) 42 (0, 0))) ∧ Hid (wr.heap[w.heap.size + 1 + 1]? = some (.cells (numC Y) 42 (0, 0))) ∧ Hid (Below w.heap.size w wr)) (fun i _ => (intOf i + 1).toNat)
      case atStart =>
        exact ⟨8, X, by omega, rfl, Lib.hid (by rw [HX.out, show 8 * (j + 1) = 8 * j + 8 by omega]), Lib.hid h3, Lib.hid h4, Lib.hid h5, Lib.hid HB.out⟩
      case round =>
        clear h3 h4 h5
        clear HB
        obtain ⟨t, Y, ht, rfl, HY, H3, H4, H5, HB⟩ := hrel
        have h3 := H3.out
        have h4 := H4.out
        have h5 := H5.out
        clear H3 H4 H5
        rcases Nat.eq_zero_or_pos t with rfl | htpos
        · skip
          go_wp2
          go_roundw
          case rel =>
            exact ⟨j, Y, by omega, by go_num, Lib.hid (by rw [HY.out, Nat.add_zero]), Lib.hid h3, Lib.hid h4, Lib.hid h5, Lib.hid HB.out⟩
          case measure => simp [intOf]
        · obtain ⟨s, rfl⟩ : ∃ s, t = s + 1 := ⟨t - 1, by omega⟩
          have bl : Y < m := by rw [HY.out]; exact Nat.mod_lt _ (by omega)
          obtain ⟨Z, qZ⟩ : ∃ u : Nat, u = (Y + Y) % m := ⟨_, rfl⟩
          have bl2 : Z < m := by rw [qZ]; exact Nat.mod_lt _ (by omega)
          have HZ := Lib.hid qZ; clear qZ
          obtain ⟨V, qV⟩ : ∃ u : Nat, u = (Z + 1) % m := ⟨_, rfl⟩
          have HV := Lib.hid qV; clear qV
          have hbx := Lib.hid (byte_bit N j s (by omega))
          have hby := byteN_lt N j
          obtain ⟨C, qC⟩ : ∃ u : Nat, u = byteN N j := ⟨_, rfl⟩
          rw [← qC] at hbx hby
          have HC := Lib.hid qC; clear qC
          by_cases hbit : N / 2 ^ (8 * j + s) % 2 = 1
          · skip
            have hand : (bits .and .u8 ((C : Int) / 2 ^ s) 1 == 1) = true := by rw [and_one8 C s hby, hbx.out, show N / 2 ^ (8 * j + s) % 2 = 1 by omega]; rfl
            go_wp2_with (first
              | ((with_reducible refine at_dst 20 ?_); refine wpList_load_row rfl 42 _ rfl (w.heap.size + 1 + 1) rfl 42 (numC Y) (0, 0) _ h5 underNum rfl (infoNum_of (numC Y) (numC_size _)) ?_)
              | ((with_reducible refine at_dst 21 ?_); refine wpList_load_row rfl 42 _ rfl (w.heap.size + 1 + 1) rfl 42 (numC Y) (0, 0) _ h5 underNum rfl (infoNum_of (numC Y) (numC_size _)) ?_)
              | ((with_reducible refine at_dst 22 ?_); refine wpList_load_row rfl 42 _ rfl (w.heap.size) rfl 42 (numC m) (0, 0) _ h3 underNum rfl (infoNum_of (numC m) (numC_size _)) ?_))
            refine (plus_to Y Y m Z HZ bl bl hm _).mono ?_
            rintro e w1 ⟨rfl, hC1⟩
            have hs1 : wr.heap.size ≤ w1.heap.size := by have := hC1.size; (try simp only [alloc_size, setRow_size] at this); omega
            have h3 : w1.heap[w.heap.size]? = some (.cells (numC m) 42 (0, 0)) := (heap_call hC1 h3)
            have h4 : w1.heap[w.heap.size + 1]? = some (.cells (z4) 42 (0, 0)) := (heap_call hC1 h4)
            have h5 : w1.heap[w.heap.size + 1 + 1]? = some (.cells (numC Y) 42 (0, 0)) := (heap_call hC1 h5)
            have hB1 : Hid (Below w.heap.size w w1) := Lib.hid (below_call HB.out hC1)
            clear hC1
            have hcl : (w1.setRow (w.heap.size + 1 + 1) (numC Z)).cell? ⟨b, off + j, none⟩ = some (.int .u8 (C : Int)) := by rw [HC.out]; exact ((HR.out.below hB1.out HR.out.lt).keep (setRow_other _ _ _ _ (by have := HR.out.lt; omega))).byte (i := j) (by omega)
            go_wp2_with (first
              | ((with_reducible refine at_store 5 ?_); refine wpList_store_row rfl 42 _ _ rfl (w.heap.size + 1 + 1) (numC Z) rfl rfl 42 (numC Y) h5 (infoNum_of (numC Z) (numC_size _)) ((numC_size _).trans (numC_size _).symm) (numC_one _) ?_))
            refine wp_named ?_
            intro w2 ew2
            have hs2 : w1.heap.size ≤ w2.heap.size := by rw [ew2]; (try simp only [alloc_size, setRow_size]); omega
            have h3 : w2.heap[w.heap.size]? = some (.cells (numC m) 42 (0, 0)) := by rw [ew2]; exact (heap_row _ (by omega) h3)
            have h4 : w2.heap[w.heap.size + 1]? = some (.cells (z4) 42 (0, 0)) := by rw [ew2]; exact (heap_row _ (by omega) h4)
            have h5 : w2.heap[w.heap.size + 1 + 1]? = some (.cells (numC Z) 42 (0, 0)) := by rw [ew2]; exact (setRow_heap _ _ _ _ _ _ h5)
            have hB2 : Hid (Below w.heap.size w w2) := Lib.hid (by rw [ew2]; exact (below_setRow hB1.out (by omega) _))
            clear ew2
            refine wp_region_noPanic ?_
            refine wp_region_held_drew (S := Keep (w.heap.size + 1 + 1) w2) (by kernel_rfl) (Keep.start _ _) ?_
            intro hS
            obtain ⟨w3, ed⟩ : ∃ u : World, u = w2.drew := ⟨_, rfl⟩
            rw [← ed] at hS ⊢
            have hT : w3.heap[w.heap.size + 1 + 1]? = some (.cells (numC Z) 42 (0, 0)) := by rw [ed]; exact h5
            clear ed
            refine wpAnyH_take (i := 2) (v := .agg (numC m)) rfl (by kernel_rfl) (by kernel_rfl) (by kernel_rfl) (fun _ _ _ h => h) (take_row rfl _ _ rfl (w.heap.size) rfl _ _ _ h3 (by omega) underNum rfl (infoNum_of (numC m) (numC_size _))) hS ?_
            simp only [Act.put, List.setIfInBounds_toArray, List.set_cons_zero, List.set_cons_succ]
            refine wpAnyH_ready (rs := [0, 1]) (by kernel_rfl) (by simp) ?_
            refine (AllReadyH.cons rfl ?_ (AllReadyH.cons rfl ?_ AllReadyH.nil))
            · intro K hK
              rw [if_pos (by rfl)]
              refine wp_load_row 42 _ rfl (w.heap.size + 1 + 1) rfl _ (numC Z) _ _ hT underNum rfl (infoNum_of (numC Z) (numC_size _)) ?_
              simp only [Act.put, List.setIfInBounds_toArray, List.set_cons_zero, List.set_cons_succ]
              refine hK.out _ _ hS ?_
              clear hK K
              intro _
              refine wpAnyH_ready (rs := [1]) (by kernel_rfl) (by simp) ?_
              refine (AllReadyH.cons rfl ?_ AllReadyH.nil)
              intro K hK
              go_simp
              refine (small_any 1 (by omega) _).mono ?_
              rintro e w5 ⟨rfl, hC⟩
              have hT := heap_call hC hT
              have hS := hS.call hC
              clear hC
              refine hK.out _ _ hS ?_
              clear hK K
              intro _
              refine wpAnyH_ready (rs := [3]) (by kernel_rfl) (by simp) ?_
              refine (AllReadyH.cons rfl ?_ AllReadyH.nil)
              intro K hK
              go_simp
              refine (plus_to Z 1 m V HV bl2 hm1 hm _).mono ?_
              rintro e w6 ⟨rfl, hC⟩
              have hT := heap_call hC hT
              have hS := hS.call hC
              clear hC
              refine hK.out _ _ hS ?_
              clear hK K
              intro _
              refine wpAnyH_ready (rs := [4]) (by kernel_rfl) (by simp) ?_
              refine (AllReadyH.cons rfl ?_ AllReadyH.nil)
              intro K hK
              rw [if_pos (by rfl)]
              refine wp_store_row 42 _ _ rfl (w.heap.size + 1 + 1) (numC V) rfl rfl 42 (numC Z) hT (infoNum_of (numC V) (numC_size _)) ((numC_size _).trans (numC_size _).symm) (numC_one _) ?_
              simp only [Act.put, List.setIfInBounds_toArray, List.set_cons_zero, List.set_cons_succ]
              have hS := hS.store (numC V)
              have hT : (w6.setRow (w.heap.size + 1 + 1) (numC V)).heap[w.heap.size + 1 + 1]? = some (.cells (numC V) 42 (0, 0)) := setRow_heap _ _ _ _ _ _ hT
              generalize w6.setRow (w.heap.size + 1 + 1) (numC V) = w7 at *
              refine hK.out _ _ hS ?_
              clear hK K
              intro _
              refine wpAnyH_done (by kernel_rfl) ?_ _
              refine NoPanic.normal ?_
              have h3 : w7.heap[w.heap.size]? = some (.cells (numC m) 42 (0, 0)) := hS.old h3 (by omega)
              have h4 : w7.heap[w.heap.size + 1]? = some (.cells (z4) 42 (0, 0)) := hS.old h4 (by omega)
              have h5 := hT
              have hsz8 := hS.size
              have hB8 : Hid (Below w.heap.size w w7) := Lib.hid (hB2.out.trans (hS.below (by omega) hB2.out.size))
              clear hS
              have hcl : (w7.setRow (w.heap.size + 1 + 1) (numC Z)).cell? ⟨b, off + j, none⟩ = some (.int .u8 (C : Int)) := by rw [HC.out]; exact ((HR.out.below hB8.out HR.out.lt).keep (setRow_other _ _ _ _ (by have := HR.out.lt; omega))).byte (i := j) (by omega)
              go_wp2
              go_roundw
              case rel =>
                exact ⟨s, _, by omega, by go_num, Lib.hid (by rw [HV.out, HZ.out, HY.out]; have := times_step1 1 N m (8 * j + s) hbit; rw [Nat.one_mul, Nat.one_mul] at this; exact this), Lib.hid h3, Lib.hid h4, Lib.hid h5, Lib.hid hB8.out⟩
              case measure => simp [intOf]
            · intro K hK
              go_simp
              refine (small_any 1 (by omega) _).mono ?_
              rintro e w9 ⟨rfl, hC⟩
              have hT := heap_call hC hT
              have hS := hS.call hC
              clear hC
              refine hK.out _ _ hS ?_
              clear hK K
              intro _
              refine wpAnyH_ready (rs := [0]) (by kernel_rfl) (by simp) ?_
              refine (AllReadyH.cons rfl ?_ AllReadyH.nil)
              intro K hK
              rw [if_pos (by rfl)]
              refine wp_load_row 42 _ rfl (w.heap.size + 1 + 1) rfl _ (numC Z) _ _ hT underNum rfl (infoNum_of (numC Z) (numC_size _)) ?_
              simp only [Act.put, List.setIfInBounds_toArray, List.set_cons_zero, List.set_cons_succ]
              refine hK.out _ _ hS ?_
              clear hK K
              intro _
              refine wpAnyH_ready (rs := [3]) (by kernel_rfl) (by simp) ?_
              refine (AllReadyH.cons rfl ?_ AllReadyH.nil)
              intro K hK
              go_simp
              refine (plus_to Z 1 m V HV bl2 hm1 hm _).mono ?_
              rintro e w11 ⟨rfl, hC⟩
              have hT := heap_call hC hT
              have hS := hS.call hC
              clear hC
              refine hK.out _ _ hS ?_
              clear hK K
              intro _
              refine wpAnyH_ready (rs := [4]) (by kernel_rfl) (by simp) ?_
              refine (AllReadyH.cons rfl ?_ AllReadyH.nil)
              intro K hK
              rw [if_pos (by rfl)]
              refine wp_store_row 42 _ _ rfl (w.heap.size + 1 + 1) (numC V) rfl rfl 42 (numC Z) hT (infoNum_of (numC V) (numC_size _)) ((numC_size _).trans (numC_size _).symm) (numC_one _) ?_
              simp only [Act.put, List.setIfInBounds_toArray, List.set_cons_zero, List.set_cons_succ]
              have hS := hS.store (numC V)
              have hT : (w11.setRow (w.heap.size + 1 + 1) (numC V)).heap[w.heap.size + 1 + 1]? = some (.cells (numC V) 42 (0, 0)) := setRow_heap _ _ _ _ _ _ hT
              generalize w11.setRow (w.heap.size + 1 + 1) (numC V) = w12 at *
              refine hK.out _ _ hS ?_
              clear hK K
              intro _
              refine wpAnyH_done (by kernel_rfl) ?_ _
              refine NoPanic.normal ?_
              have h3 : w12.heap[w.heap.size]? = some (.cells (numC m) 42 (0, 0)) := hS.old h3 (by omega)
              have h4 : w12.heap[w.heap.size + 1]? = some (.cells (z4) 42 (0, 0)) := hS.old h4 (by omega)
              have h5 := hT
              have hsz13 := hS.size
              have hB13 : Hid (Below w.heap.size w w12) := Lib.hid (hB2.out.trans (hS.below (by omega) hB2.out.size))
              clear hS
              have hcl : (w12.setRow (w.heap.size + 1 + 1) (numC Z)).cell? ⟨b, off + j, none⟩ = some (.int .u8 (C : Int)) := by rw [HC.out]; exact ((HR.out.below hB13.out HR.out.lt).keep (setRow_other _ _ _ _ (by have := HR.out.lt; omega))).byte (i := j) (by omega)
              go_wp2
              go_roundw
              case rel =>
                exact ⟨s, _, by omega, by go_num, Lib.hid (by rw [HV.out, HZ.out, HY.out]; have := times_step1 1 N m (8 * j + s) hbit; rw [Nat.one_mul, Nat.one_mul] at this; exact this), Lib.hid h3, Lib.hid h4, Lib.hid h5, Lib.hid hB13.out⟩
              case measure => simp [intOf]
          · skip
            have hand : (bits .and .u8 ((C : Int) / 2 ^ s) 1 == 1) = false := by rw [and_one8 C s hby, hbx.out, show N / 2 ^ (8 * j + s) % 2 = 0 by omega]; rfl
            go_wp2_with (first
              | ((with_reducible refine at_dst 20 ?_); refine wpList_load_row rfl 42 _ rfl (w.heap.size + 1 + 1) rfl 42 (numC Y) (0, 0) _ h5 underNum rfl (infoNum_of (numC Y) (numC_size _)) ?_)
              | ((with_reducible refine at_dst 21 ?_); refine wpList_load_row rfl 42 _ rfl (w.heap.size + 1 + 1) rfl 42 (numC Y) (0, 0) _ h5 underNum rfl (infoNum_of (numC Y) (numC_size _)) ?_)
              | ((with_reducible refine at_dst 22 ?_); refine wpList_load_row rfl 42 _ rfl (w.heap.size) rfl 42 (numC m) (0, 0) _ h3 underNum rfl (infoNum_of (numC m) (numC_size _)) ?_))
            refine (plus_to Y Y m Z HZ bl bl hm _).mono ?_
            rintro e w1 ⟨rfl, hC1⟩
            have hs1 : wr.heap.size ≤ w1.heap.size := by have := hC1.size; (try simp only [alloc_size, setRow_size] at this); omega
            have h3 : w1.heap[w.heap.size]? = some (.cells (numC m) 42 (0, 0)) := (heap_call hC1 h3)
            have h4 : w1.heap[w.heap.size + 1]? = some (.cells (z4) 42 (0, 0)) := (heap_call hC1 h4)
            have h5 : w1.heap[w.heap.size + 1 + 1]? = some (.cells (numC Y) 42 (0, 0)) := (heap_call hC1 h5)
            have hB1 : Hid (Below w.heap.size w w1) := Lib.hid (below_call HB.out hC1)
            clear hC1
            have hcl : (w1.setRow (w.heap.size + 1 + 1) (numC Z)).cell? ⟨b, off + j, none⟩ = some (.int .u8 (C : Int)) := by rw [HC.out]; exact ((HR.out.below hB1.out HR.out.lt).keep (setRow_other _ _ _ _ (by have := HR.out.lt; omega))).byte (i := j) (by omega)
            go_wp2_with (first
              | ((with_reducible refine at_store 5 ?_); refine wpList_store_row rfl 42 _ _ rfl (w.heap.size + 1 + 1) (numC Z) rfl rfl 42 (numC Y) h5 (infoNum_of (numC Z) (numC_size _)) ((numC_size _).trans (numC_size _).symm) (numC_one _) ?_))
            go_roundw
            case rel =>
              exact ⟨s, _, by omega, by go_num, Lib.hid (by rw [HZ.out, HY.out]; have := times_step0 1 N m (8 * j + s) hbit; rw [Nat.one_mul, Nat.one_mul] at this; exact this), Lib.hid (heap_row _ (by omega) h3), Lib.hid (heap_row _ (by omega) h4), Lib.hid (setRow_heap _ _ _ _ _ _ h5), Lib.hid (below_setRow hB1.out (by omega) _)⟩
            case measure => simp [intOf]
end Go.Proofs.YtemgflkecflhmaaDoor
