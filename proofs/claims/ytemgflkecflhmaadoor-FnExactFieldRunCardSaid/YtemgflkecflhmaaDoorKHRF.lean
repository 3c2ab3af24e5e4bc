/- impl.FieldRun: the registers made, the steps done, the registers told. -/
import Derived.LoopTactic
import Derived.Test.YtemgflkecflhmaaDoorKL5
set_option maxRecDepth 4000
set_option linter.unusedSimpArgs false
set_option linter.unusedVariables false
namespace Go.Proofs.YtemgflkecflhmaaDoor
open Go.RowKit
theorem uses_forms (k : Int) : usesN k = (false, false, false) ∨ usesN k = (true, true, true) ∨ usesN k = (true, true, false) ∨ usesN k = (true, false, false) := by
  unfold usesN
  split
  · exact Or.inr (Or.inl rfl)
  · split
    · exact Or.inr (Or.inr (Or.inl rfl))
    · split
      · exact Or.inr (Or.inr (Or.inr rfl))
      · exact Or.inl rfl
def zOp : Array Value := #[.int .i64 0, .int .i64 0, .int .i64 0, .int .i64 0, .int .u32 0]
theorem made_pos {o : FOp} {n : Nat} (h : madeN o n = true) : 0 < n := by
  unfold madeN at h
  simp only [Bool.and_eq_true] at h
  obtain ⟨_, _, h⟩ := regN_true h.1.1.2
  omega
theorem Own.base {w : World} {B B' s n : Nat} {e : TypeId} {v : Value} {f : Nat → List Value} (h : Own w B' e s v n f) (hB : B ≤ B') : Own w B e s v n f := by
  refine ⟨⟨h.1.1, ?_⟩, h.2⟩
  rcases h.1.2 with hn | ⟨b, cap, cur, rfl, hb, rest⟩
  · exact .inl hn
  · exact .inr ⟨b, cap, cur, rfl, Nat.le_trans hB hb, rest⟩
theorem step_n {B B0 rb cap k : Nat} {w : World} {bs : Nat → Nat} {r : List Nat} (o : FOp) (hn : o.n < 4294967296) (hm : madeN o r.length = true) (hl : r.length = k) (hP : Ptrs B w (.slice (some ⟨rb, 0, none⟩) k cap) bs k) (hE : Elems B w bs r) (hB : B ≤ w.heap.size) (hB0 : B0 ≤ B)
    (hD0 : Var 0 z5 B0 w) (hD1 : Var 1 i5 B0 w) (hDo : Var 2 o5 B0 w) :
    Calls Tryd.prog 10 #[.slice (some ⟨rb, 0, none⟩) k cap, .agg (opO o)] w fun e w' => e = .returned (.tuple #[]) ∧ Below B w w' ∧ Ptrs B w' (.slice (some ⟨rb, 0, none⟩) k cap) bs k ∧ Elems B w' bs (stepN o r) := by
  subst hl
  refine (step_any o hn hm hP hE hB hB0 hD0 hD1 hDo).mono fun _ w' h => ⟨h.1, h.2.1, ?_, h.2.2.2⟩
  have := h.2.2.1
  rw [stepN_length] at this
  exact this
set_option maxHeartbeats 2000000 in
theorem irun (sl so : Option Addr) (n cap cp : Nat) (S : Nat → Nat) (os : List FOp) (w : World) (hn : n * 32 ≤ 140737488351232) (hm : os.length ≤ 9223372036854775807)
    (hS : Hid (RowsAt w sl n 32 (fun i => arrC (S i)))) (hO : Hid (RowsAt w so os.length 5 (fun i => opO (os.getD i default)))) (hN : Hid (∀ i, i < os.length → (os.getD i default).n < 4294967296))
    (B0 : Nat) (hB0 : B0 ≤ w.heap.size) (hD0 : Hid (Var 0 z5 B0 w)) (hD1 : Hid (Var 1 i5 B0 w)) (hDo : Hid (Var 2 o5 B0 w)) :
    Calls Tryd.prog 5 #[.slice sl n cap, .slice so os.length cp] w fun e w' => ∃ v, e = .returned v ∧ Below w.heap.size w w' ∧ Own w' w.heap.size 27 32 v n (fun i => (arrC ((runN (regs0 S n) os).getD i 0)).toList) := by
  go_enter Tryd.func5, Tryd.ntmps5
  go_wp2
  go_loopw [5, 19] (fun v i wr => ∃ (k : Nat) (bs : Nat → Nat), k ≤ n ∧ i = .int .i64 (k : Int) ∧ Hid (Ptrs w.heap.size wr v bs k) ∧ Hid (Elems w.heap.size wr bs (regs0 S k)) ∧ Hid (Below w.heap.size w wr)) (fun _ i _ => n - (intOf i).toNat)
  case atStart =>
    exact ⟨0, fun _ => 0, Nat.zero_le _, rfl, Lib.hid (Own.nil _ _ _ _ _), Lib.hid ⟨fun i hi => absurd hi (Nat.not_lt_zero _), fun i j hi => absurd hi (Nat.not_lt_zero _), fun i hi => absurd hi (Nat.not_lt_zero _)⟩, Lib.hid (Below.refl _ w)⟩
  case round =>
    obtain ⟨k, bs, hk, rfl, HP, HE, HB⟩ := hrel
    have hs0 : w.heap.size ≤ wr.heap.size := HB.out.size
    by_cases hlt : k < n
    · obtain ⟨ab, ao, rfl, hab, hr⟩ := (hS.out.below HB.out) k hlt
      obtain ⟨N, qN⟩ : ∃ N, N = S k := ⟨_, rfl⟩
      change wr.rangeAt ab (ao + k * 32) (arrC (S k)).toList at hr
      rw [← qN] at hr
      have HN := Lib.hid qN
      clear qN
      go_wp2_with (first
        | ((with_reducible refine at_dst 22 ?_); refine wpList_load_at rfl 27 _ rfl (some 22) rfl ab (ao + k * 32) rfl (arrC N) hr under32 rfl (info32_of _ (arrC_size _)) ?_)
        | ((with_reducible refine at_store 7 ?_); refine wpList_store_row rfl 27 _ _ rfl (wr.heap.size) (arrC N) rfl rfl 27 (zL) (heap_new_at _ _ _ rfl) (info32_of _ (arrC_size _)) (zL_size.trans (arrC_size _).symm) (arrC_one _) ?_)
        | ((with_reducible refine at_dst 24 ?_); refine wpList_load_row rfl 27 _ rfl (wr.heap.size) rfl 27 (arrC N) (0, 0) _ (setRow_heap _ _ _ _ _ _ (heap_new_at _ _ _ rfl)) under32 rfl (info32_of _ (arrC_size _)) ?_))
      refine (elementOf_fe N _).mono ?_
      rintro e w1 ⟨b, rfl, hb, hC, hF⟩
      have hC' := below_new hC
      have hb1 : wr.heap.size ≤ b := by (try simp only [alloc_size, setRow_size] at hb); omega
      have hs1 : wr.heap.size ≤ w1.heap.size := hC'.size
      have HP1 : Hid (Ptrs w.heap.size w1 _ bs k) := Lib.hid (Own.below HP.out hC')
      have HE1 : Hid (Elems w.heap.size w1 (fun i => if i < k then bs i else b) (regs0 S (k + 1))) := Lib.hid (by
        have := Elems.push HE.out hC' hb1 hs0 hF
        rw [regs0_length] at this
        rw [regs0_succ, ← HN.out]; exact this)
      have HB1 : Hid (Below w.heap.size w w1) := Lib.hid (below_step HB.out (Nat.le_refl _) hC')
      have hvb := Lib.hid (Own.lt HP.out)
      clear hC hC' hF hb
      go_wp2_with (at_builtin; refine wpList_append_one rfl _ _ 28 rfl (some 27) rfl w.heap.size 29 (.pointer none) 1 8 underPs infoP rfl (by decide) _ k (fun i => [.pointer (some ⟨bs i, 0, none⟩)]) rfl (Own.alloc HP1.out _) w1.heap.size 1 [.pointer (some ⟨b, 0, none⟩)] rfl rfl (one_range _ _ _) ?c1 ?c2 ?c3 ?c4 ?_)
      case c1 => simp [Value.oneCell']
      case c2 => unfold maxLen; omega
      case c3 => omega
      case c4 => rw [alloc_size]; omega
      intro v' w2 hown hgrow
      have HP2 : Hid (Ptrs w.heap.size w2 v' (fun i => if i < k then bs i else b) (k + 1)) := Lib.hid (Own.congr hown fun i hi => by by_cases h : i < k <;> simp [h])
      have HE2 : Hid (Elems w.heap.size w2 (fun i => if i < k then bs i else b) (regs0 S (k + 1))) := Lib.hid (Elems.grown (Elems.below HE1.out (below_alloc (Below.refl _ _) _)) hgrow fun i hi => by
        have hf := HE1.out.fe i hi
        rw [regs0_length] at hi
        by_cases h : i < k
        · exact HP1.out.own_ne (by omega) hf
        · intro e
          simp only [if_neg h] at e
          have := (hvb.out b e.symm).2
          omega)
      have HB2 : Hid (Below w.heap.size w w2) := Lib.hid ((below_alloc HB1.out _).trans (grown_below hgrow (fun c hc => (hvb.out c hc).1) (by rw [alloc_size]; omega)))
      clear hown hgrow
      go_wp2
      go_roundw
      case rel => exact ⟨k + 1, _, by omega, by go_num, HP2, HE2, HB2⟩
      case measure => simp [intOf]; omega
    · obtain rfl : k = n := by omega
      obtain ⟨sl2, cap2, rfl, hf⟩ := Own.form HP.out
      have Hf := Lib.hid hf; clear hf
      go_wp2
      go_loopw [33] (fun i wr => ∃ j : Nat, j ≤ os.length ∧ i = .int .i64 (j : Int) ∧ Hid (Ptrs w.heap.size wr (.slice sl2 k cap2) bs k) ∧ Hid (Elems w.heap.size wr bs (runN (regs0 S k) (os.take j))) ∧ Hid (Below w.heap.size w wr)) (fun i _ => os.length - (intOf i).toNat)
      case atStart => exact ⟨0, Nat.zero_le _, rfl, HP, HE, HB⟩
      case round =>
        clear HP HE HB hs0
        obtain ⟨j, hj, rfl, HP, HE, HB⟩ := hrel
        have hs0 : w.heap.size ≤ wr.heap.size := HB.out.size
        obtain ⟨r, qr⟩ : ∃ r, r = runN (regs0 S k) (os.take j) := ⟨_, rfl⟩
        rw [← qr] at HE
        have hl : r.length = k := by rw [qr, runN_length, regs0_length]
        by_cases hlt2 : j < os.length
        · obtain ⟨ob, oo, rfl, hob, hr⟩ := (hO.out.below HB.out) j hlt2
          obtain ⟨o, qo⟩ : ∃ o, o = os.getD j default := ⟨_, rfl⟩
          change wr.rangeAt ob (oo + j * 5) (opO (os.getD j default)).toList at hr
          have hno := hN.out j hlt2
          have hrun := runN_succ (regs0 S k) os j hlt2
          rw [← qo] at hr hno hrun
          rw [← qr] at hrun
          have Hrun := Lib.hid hrun
          have Hl := Lib.hid hl
          clear qo qr hrun hl
          go_upto_region 11 with (first
            | ((with_reducible refine at_dst 36 ?_); refine wpList_load_at rfl 33 _ rfl (some 36) rfl ob (oo + j * 5) rfl (opO o) hr underOp rfl infoOp ?_)
            | ((with_reducible refine at_store 10 ?_); refine wpList_store_row rfl 33 _ _ rfl (wr.heap.size) (opO o) rfl rfl 33 (zOp) (heap_new_at _ _ _ rfl) infoOp rfl (opO_one o) ?_))
          refine wp_named ?_
          intro w1 ew1
          have hg : w1.heap[wr.heap.size]? = some (.cells (opO o) 33 (0, 0)) := by rw [ew1]; exact (setRow_heap _ _ _ _ _ _ (heap_new_at _ _ _ rfl))
          have hBn : Below wr.heap.size wr w1 := by rw [ew1]; exact below_new0 _ _ _ _
          clear ew1 hr hob
          have k0 : w1.cell? ⟨wr.heap.size, 0, none⟩ = some (.int .i64 o.kind) := cell_of_row w1 _ 0 _ _ _ hg
          have k1 : w1.cell? ⟨wr.heap.size, 1, none⟩ = some (.int .i64 o.z) := cell_of_row w1 _ 1 _ _ _ hg
          have k2 : w1.cell? ⟨wr.heap.size, 2, none⟩ = some (.int .i64 o.x) := cell_of_row w1 _ 2 _ _ _ hg
          have k3 : w1.cell? ⟨wr.heap.size, 3, none⟩ = some (.int .i64 o.y) := cell_of_row w1 _ 3 _ _ _ hg
          have HP1 : Hid (Ptrs w.heap.size w1 (.slice sl2 k cap2) bs k) := Lib.hid (Own.below HP.out hBn)
          have HE1 : Hid (Elems w.heap.size w1 bs r) := Lib.hid (HE.out.below hBn)
          have HB1 : Hid (Below w.heap.size w w1) := Lib.hid (below_step HB.out (Nat.le_refl _) hBn)
          have hs1 : w.heap.size ≤ w1.heap.size := HB1.out.size
          have hu := iuses_any o.kind w1
          have iz := isreg_any o.z k w1
          have ix := isreg_any o.x k w1
          have iy := isreg_any o.y k w1
          clear hBn HP HE HB
          rcases uses_forms o.kind with huf | huf | huf | huf
          · rw [huf] at hu
            simp only at hu
            go_wp2_with fail
            refine hu.mono ?_
            rintro e w2 ⟨rfl, hw⟩
            rw [hw]
            clear hw w2
            have hm : madeN o r.length = false := by rw [Hl.out]; simp [madeN, huf]
            have hst := Lib.hid (stepN_no hm)
            clear hm
            go_wp2
            go_roundw
            case rel => exact ⟨j + 1, by omega, by go_num, HP1, by rw [Hrun.out, hst.out]; exact HE1, HB1⟩
            case measure => simp [intOf]; omega
          · rw [huf] at hu
            simp only at hu
            cases rz : regN o.z k with
            | true =>
              rw [rz] at iz
              cases rx : regN o.x k with
              | true =>
                rw [rx] at ix
                cases ry : regN o.y k with
                | true =>
                  rw [ry] at iy
                  go_wp2_with fail
                  refine hu.mono ?_
                  rintro e w2 ⟨rfl, hw⟩
                  rw [hw]
                  clear hw w2
                  go_wp2_with fail
                  refine iz.mono ?_
                  rintro e w2 ⟨rfl, hw⟩
                  rw [hw]
                  clear hw w2
                  go_wp2_with fail
                  refine ix.mono ?_
                  rintro e w2 ⟨rfl, hw⟩
                  rw [hw]
                  clear hw w2
                  go_wp2_with fail
                  refine iy.mono ?_
                  rintro e w2 ⟨rfl, hw⟩
                  rw [hw]
                  clear hw w2
                  have hm : madeN o r.length = true := by rw [Hl.out]; simp [madeN, huf, rz, rx, ry]
                  obtain ⟨rb, rfl, _, _⟩ := Hf.out (by have := made_pos hm; rw [Hl.out] at this; exact this)
                  go_wp2_with ((with_reducible refine at_dst 72 ?_); refine wpList_load_row rfl 33 _ rfl (wr.heap.size) rfl 33 (opO o) (0, 0) _ hg underOp rfl infoOp ?_)
                  refine (step_n o hno hm Hl.out HP1.out HE1.out hs1 hB0 (hD0.out.later HB1.out) (hD1.out.later HB1.out) (hDo.out.later HB1.out)).mono ?_
                  rintro e w2 ⟨rfl, hB2, hP2, hE2⟩
                  have HP2 := Lib.hid hP2; have HE2 := Lib.hid hE2; have HB2 := Lib.hid (HB1.out.trans hB2)
                  clear hP2 hE2 hB2
                  go_wp2
                  go_roundw
                  case rel => exact ⟨j + 1, by omega, by go_num, HP2, by rw [Hrun.out]; exact HE2, HB2⟩
                  case measure => simp [intOf]; omega
                | false =>
                  rw [ry] at iy
                  go_wp2_with fail
                  refine hu.mono ?_
                  rintro e w2 ⟨rfl, hw⟩
                  rw [hw]
                  clear hw w2
                  go_wp2_with fail
                  refine iz.mono ?_
                  rintro e w2 ⟨rfl, hw⟩
                  rw [hw]
                  clear hw w2
                  go_wp2_with fail
                  refine ix.mono ?_
                  rintro e w2 ⟨rfl, hw⟩
                  rw [hw]
                  clear hw w2
                  go_wp2_with fail
                  refine iy.mono ?_
                  rintro e w2 ⟨rfl, hw⟩
                  rw [hw]
                  clear hw w2
                  have hm : madeN o r.length = false := by rw [Hl.out]; simp [madeN, huf, rz, rx, ry]
                  have hst := Lib.hid (stepN_no hm)
                  clear hm
                  go_wp2
                  go_roundw
                  case rel => exact ⟨j + 1, by omega, by go_num, HP1, by rw [Hrun.out, hst.out]; exact HE1, HB1⟩
                  case measure => simp [intOf]; omega
              | false =>
                rw [rx] at ix
                go_wp2_with fail
                refine hu.mono ?_
                rintro e w2 ⟨rfl, hw⟩
                rw [hw]
                clear hw w2
                go_wp2_with fail
                refine iz.mono ?_
                rintro e w2 ⟨rfl, hw⟩
                rw [hw]
                clear hw w2
                go_wp2_with fail
                refine ix.mono ?_
                rintro e w2 ⟨rfl, hw⟩
                rw [hw]
                clear hw w2
                have hm : madeN o r.length = false := by rw [Hl.out]; simp [madeN, huf, rz, rx]
                have hst := Lib.hid (stepN_no hm)
                clear hm
                go_wp2
                go_roundw
                case rel => exact ⟨j + 1, by omega, by go_num, HP1, by rw [Hrun.out, hst.out]; exact HE1, HB1⟩
                case measure => simp [intOf]; omega
            | false =>
              rw [rz] at iz
              go_wp2_with fail
              refine hu.mono ?_
              rintro e w2 ⟨rfl, hw⟩
              rw [hw]
              clear hw w2
              go_wp2_with fail
              refine iz.mono ?_
              rintro e w2 ⟨rfl, hw⟩
              rw [hw]
              clear hw w2
              have hm : madeN o r.length = false := by rw [Hl.out]; simp [madeN, huf, rz]
              have hst := Lib.hid (stepN_no hm)
              clear hm
              go_wp2
              go_roundw
              case rel => exact ⟨j + 1, by omega, by go_num, HP1, by rw [Hrun.out, hst.out]; exact HE1, HB1⟩
              case measure => simp [intOf]; omega
          · rw [huf] at hu
            simp only at hu
            cases rz : regN o.z k with
            | true =>
              rw [rz] at iz
              cases rx : regN o.x k with
              | true =>
                rw [rx] at ix
                go_wp2_with fail
                refine hu.mono ?_
                rintro e w2 ⟨rfl, hw⟩
                rw [hw]
                clear hw w2
                go_wp2_with fail
                refine iz.mono ?_
                rintro e w2 ⟨rfl, hw⟩
                rw [hw]
                clear hw w2
                go_wp2_with fail
                refine ix.mono ?_
                rintro e w2 ⟨rfl, hw⟩
                rw [hw]
                clear hw w2
                have hm : madeN o r.length = true := by rw [Hl.out]; simp [madeN, huf, rz, rx]
                obtain ⟨rb, rfl, _, _⟩ := Hf.out (by have := made_pos hm; rw [Hl.out] at this; exact this)
                go_wp2_with ((with_reducible refine at_dst 72 ?_); refine wpList_load_row rfl 33 _ rfl (wr.heap.size) rfl 33 (opO o) (0, 0) _ hg underOp rfl infoOp ?_)
                refine (step_n o hno hm Hl.out HP1.out HE1.out hs1 hB0 (hD0.out.later HB1.out) (hD1.out.later HB1.out) (hDo.out.later HB1.out)).mono ?_
                rintro e w2 ⟨rfl, hB2, hP2, hE2⟩
                have HP2 := Lib.hid hP2; have HE2 := Lib.hid hE2; have HB2 := Lib.hid (HB1.out.trans hB2)
                clear hP2 hE2 hB2
                go_wp2
                go_roundw
                case rel => exact ⟨j + 1, by omega, by go_num, HP2, by rw [Hrun.out]; exact HE2, HB2⟩
                case measure => simp [intOf]; omega
              | false =>
                rw [rx] at ix
                go_wp2_with fail
                refine hu.mono ?_
                rintro e w2 ⟨rfl, hw⟩
                rw [hw]
                clear hw w2
                go_wp2_with fail
                refine iz.mono ?_
                rintro e w2 ⟨rfl, hw⟩
                rw [hw]
                clear hw w2
                go_wp2_with fail
                refine ix.mono ?_
                rintro e w2 ⟨rfl, hw⟩
                rw [hw]
                clear hw w2
                have hm : madeN o r.length = false := by rw [Hl.out]; simp [madeN, huf, rz, rx]
                have hst := Lib.hid (stepN_no hm)
                clear hm
                go_wp2
                go_roundw
                case rel => exact ⟨j + 1, by omega, by go_num, HP1, by rw [Hrun.out, hst.out]; exact HE1, HB1⟩
                case measure => simp [intOf]; omega
            | false =>
              rw [rz] at iz
              go_wp2_with fail
              refine hu.mono ?_
              rintro e w2 ⟨rfl, hw⟩
              rw [hw]
              clear hw w2
              go_wp2_with fail
              refine iz.mono ?_
              rintro e w2 ⟨rfl, hw⟩
              rw [hw]
              clear hw w2
              have hm : madeN o r.length = false := by rw [Hl.out]; simp [madeN, huf, rz]
              have hst := Lib.hid (stepN_no hm)
              clear hm
              go_wp2
              go_roundw
              case rel => exact ⟨j + 1, by omega, by go_num, HP1, by rw [Hrun.out, hst.out]; exact HE1, HB1⟩
              case measure => simp [intOf]; omega
          · rw [huf] at hu
            simp only at hu
            cases rz : regN o.z k with
            | true =>
              rw [rz] at iz
              go_wp2_with fail
              refine hu.mono ?_
              rintro e w2 ⟨rfl, hw⟩
              rw [hw]
              clear hw w2
              go_wp2_with fail
              refine iz.mono ?_
              rintro e w2 ⟨rfl, hw⟩
              rw [hw]
              clear hw w2
              have hm : madeN o r.length = true := by rw [Hl.out]; simp [madeN, huf, rz]
              obtain ⟨rb, rfl, _, _⟩ := Hf.out (by have := made_pos hm; rw [Hl.out] at this; exact this)
              go_wp2_with ((with_reducible refine at_dst 72 ?_); refine wpList_load_row rfl 33 _ rfl (wr.heap.size) rfl 33 (opO o) (0, 0) _ hg underOp rfl infoOp ?_)
              refine (step_n o hno hm Hl.out HP1.out HE1.out hs1 hB0 (hD0.out.later HB1.out) (hD1.out.later HB1.out) (hDo.out.later HB1.out)).mono ?_
              rintro e w2 ⟨rfl, hB2, hP2, hE2⟩
              have HP2 := Lib.hid hP2; have HE2 := Lib.hid hE2; have HB2 := Lib.hid (HB1.out.trans hB2)
              clear hP2 hE2 hB2
              go_wp2
              go_roundw
              case rel => exact ⟨j + 1, by omega, by go_num, HP2, by rw [Hrun.out]; exact HE2, HB2⟩
              case measure => simp [intOf]; omega
            | false =>
              rw [rz] at iz
              go_wp2_with fail
              refine hu.mono ?_
              rintro e w2 ⟨rfl, hw⟩
              rw [hw]
              clear hw w2
              go_wp2_with fail
              refine iz.mono ?_
              rintro e w2 ⟨rfl, hw⟩
              rw [hw]
              clear hw w2
              have hm : madeN o r.length = false := by rw [Hl.out]; simp [madeN, huf, rz]
              have hst := Lib.hid (stepN_no hm)
              clear hm
              go_wp2
              go_roundw
              case rel => exact ⟨j + 1, by omega, by go_num, HP1, by rw [Hrun.out, hst.out]; exact HE1, HB1⟩
              case measure => simp [intOf]; omega
        · obtain rfl : j = os.length := by omega
          rw [runN_all] at qr
          have Hl := Lib.hid hl
          clear hl
          obtain ⟨w3, q3⟩ : ∃ u : World, u = wr := ⟨_, rfl⟩
          rw [← q3] at HP HE HB hs0 ⊢
          clear q3
          go_wp2
          go_loopw [14, 77] (fun v i wr => ∃ j : Nat, j ≤ k ∧ i = .int .i64 (j : Int) ∧ Hid (Own wr w3.heap.size 27 32 v j (fun i => (arrC (r.getD i 0)).toList)) ∧ Hid (Below w3.heap.size w3 wr)) (fun _ i _ => k - (intOf i).toNat)
          case atStart => exact ⟨0, Nat.zero_le _, rfl, Lib.hid (Own.nil _ _ _ _ _), Lib.hid (Below.refl _ _)⟩
          case round =>
            obtain ⟨j, hj2, rfl, HO3, HB3⟩ := hrel
            have hs3 : w3.heap.size ≤ wr.heap.size := HB3.out.size
            by_cases hlt3 : j < k
            · obtain ⟨rb, rfl, _, _⟩ := Hf.out (by omega)
              have hc := Ptrs.cell (Own.below HP.out HB3.out) hlt3
              have hF := (HE.out.below HB3.out).fe j (by rw [Hl.out]; exact hlt3)
              obtain ⟨X, qX⟩ : ∃ X, X = r.getD j 0 := ⟨_, rfl⟩
              rw [← qX] at hF
              generalize bs j = b at hc hF
              have HX := Lib.hid qX; have HF := Lib.hid hF
              clear qX hF
              go_wp2_with fail
              refine (elementBytes_fe b 0 X _ HF.out).mono ?_
              rintro e w4 ⟨rfl, hC⟩
              have hs4 : wr.heap.size ≤ w4.heap.size := hC.size
              have HO4 := Lib.hid (Own.below HO3.out hC)
              have HB4 := Lib.hid (below_step HB3.out (Nat.le_refl _) hC)
              have hvb := Lib.hid (Own.lt HO4.out)
              clear hC hc
              go_wp2_with (first
                | ((with_reducible refine at_dst 84 ?_); refine wpList_build_one rfl 22 27 _ rfl w4.heap.size rfl (some 84) rfl underAs (arrC X) rfl (builtA X) ?_)
                | (at_builtin; refine wpList_append_one rfl _ _ 22 rfl (some 85) rfl w3.heap.size 27 (.agg zL) 32 32 underAs infoA rfl (by decide) _ j (fun i => (arrC (r.getD i 0)).toList) rfl (Own.alloc HO4.out _) w4.heap.size 1 (arrC X).toList rfl ?l1 ?l2 ?c1 ?c2 ?c3 ?c4 ?_))
              case l1 => rw [Array.length_toList, arrC_size]
              case l2 => exact new_range _ _ _
              case c1 => exact fun u hu => (Array.all_eq_true_iff_forall_mem.1 (arrC_one X)) u (by simpa using hu)
              case c2 => unfold maxLen; omega
              case c3 => omega
              case c4 => rw [alloc_size]; omega
              intro v' w5 hown hgrow
              have HO5 : Hid (Own w5 w3.heap.size 27 32 v' (j + 1) (fun i => (arrC (r.getD i 0)).toList)) := Lib.hid (Own.congr hown fun i hi => by
                by_cases h : i < j
                · simp only [if_pos h]
                · simp only [if_neg h]; rw [HX.out, show i = j by omega])
              have HB5 : Hid (Below w3.heap.size w3 w5) := Lib.hid ((HB4.out.alloc (by omega) _).trans (grown_below hgrow (fun c hc => (hvb.out c hc).1) (by rw [alloc_size]; omega)))
              clear hown hgrow
              go_wp2
              go_roundw
              case rel => exact ⟨j + 1, by omega, by go_num, HO5, HB5⟩
              case measure => simp [intOf]; omega
            · obtain rfl : j = k := by omega
              go_wp2
              go_ret
              exact ⟨_, rfl, HB.out.trans (HB3.out.mono hs0), by rw [← qr]; exact Own.base HO3.out hs0⟩
end Go.Proofs.YtemgflkecflhmaaDoor
