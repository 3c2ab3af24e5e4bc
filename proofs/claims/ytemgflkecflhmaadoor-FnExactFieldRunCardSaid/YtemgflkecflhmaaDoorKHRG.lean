/- spec.FieldRun: the numbers read, the steps done, the numbers told. -/
import Derived.StillTailTactics
import Derived.Test.YtemgflkecflhmaaDoorKHRF
import Derived.Test.YtemgflkecflhmaaDoorKHRV
import Derived.Test.YtemgflkecflhmaaDoorKL3
set_option maxRecDepth 4000
set_option linter.unusedSimpArgs false
set_option linter.unusedVariables false
namespace Go.Proofs.YtemgflkecflhmaaDoor
open Go.RowKit
/-- the cells of a list of numbers -/
def nums (r : List Nat) (i : Nat) : List Value := (numC (r.getD i 0)).toList
theorem infoNums : (Tryd.prog.info? 42).map (fun i => (i.zero, i.size, i.bytes)) = some (some (.agg z4), 4, 32) := by kernel_rfl
theorem underNs : Tryd.prog.underlying 39 = some (.slice 42) := by kernel_rfl
theorem builtN' (a0 a1 a2 a3 : Value) : Tryd.prog.builtSlice 42 1 [(0, .agg #[a0, a1, a2, a3])] = some #[a0, a1, a2, a3] := by kernel_rfl
theorem builtN (x : Nat) : Tryd.prog.builtSlice 42 1 [(0, .agg (numC x))] = some (numC x) := by rw [numC_four]; exact builtN' _ _ _ _
theorem numC_ones (X : Nat) : ∀ u ∈ (numC X).toList, u.oneCell' = true := fun u hu => (Array.all_eq_true_iff_forall_mem.1 (numC_one X)) u (by simpa using hu)
/-- a round of the script -/
structure SR (B : Nat) (w0 w : World) (ob : Nat) (o : FOp) (v : Value) (n : Nat) (r : List Nat) : Prop where
  op : w.heap[ob]? = some (.cells (opO o) 33 (0, 0))
  own : Own w B 42 4 v n (nums r)
  bel : Below B w0 w
  size : B ≤ w.heap.size
  obB : B ≤ ob
  rbl : ∀ b, v.ownBlock = some b → b < ob
section
variable {B ob n cap rb : Nat} {w0 w w' : World} {o : FOp} {v : Value} {r : List Nat}
theorem SR.below (h : SR B w0 w ob o v n r) (hA : Below w.heap.size w w') : SR B w0 w' ob o v n r :=
  ⟨heap_call hA h.op, h.own.below hA, h.bel.trans (hA.mono h.size), Nat.le_trans h.size hA.size, h.obB, h.rbl⟩
theorem SR.k0 (h : SR B w0 w ob o v n r) : w.cell? ⟨ob, 0, none⟩ = some (.int .i64 o.kind) := cell_of_row w _ 0 _ _ _ h.op
theorem SR.k1 (h : SR B w0 w ob o v n r) : w.cell? ⟨ob, 1, none⟩ = some (.int .i64 o.z) := cell_of_row w _ 1 _ _ _ h.op
theorem SR.k2 (h : SR B w0 w ob o v n r) : w.cell? ⟨ob, 2, none⟩ = some (.int .i64 o.x) := cell_of_row w _ 2 _ _ _ h.op
theorem SR.k3 (h : SR B w0 w ob o v n r) : w.cell? ⟨ob, 3, none⟩ = some (.int .i64 o.y) := cell_of_row w _ 3 _ _ _ h.op
theorem SR.k4 (h : SR B w0 w ob o v n r) : w.cell? ⟨ob, 4, none⟩ = some (.int .u32 (o.n : Int)) := cell_of_row w _ 4 _ _ _ h.op
/-- a register written -/
theorem nums_store (h : Own w B 42 4 (.slice (some ⟨rb, 0, none⟩) n cap) n (nums r)) (hl : r.length = n) {z : Nat} (hz : z < n) (V : Nat) (hB : B ≤ w.heap.size) :
    Own (w.setCells rb (z * 4) (numC V).toList) B 42 4 (.slice (some ⟨rb, 0, none⟩) n cap) n (nums (r.set z V)) ∧ Below B w (w.setCells rb (z * 4) (numC V).toList) := by
  have h1 := h.store hz (numC V).toList (by rw [Array.length_toList, numC_size])
  refine ⟨h1.1.congr fun j hj => ?_, grown_below h1.2 (fun b hb => ?_) hB⟩
  · unfold nums
    rw [getD_set r z j V (by omega)]
    by_cases e : j = z <;> simp [e]
  · simp only [Option.some.injEq] at hb
    subst hb
    exact (h.lt rb rfl).1
end
theorem valueN_noY (o : FOp) (a b b' : Nat) (h : (usesN o.kind).2.2 = false) : valueN o a b = valueN o a b' := by
  obtain ⟨k, z, x, y, n⟩ := o
  simp only at h
  rcases kinds16 k with rfl | rfl | rfl | rfl | rfl | rfl | rfl | rfl | rfl | rfl | rfl | rfl | rfl | rfl | rfl | rfl | h' <;> first
    | (exact absurd h (by decide))
    | (simp only [valueN]; simp)
    | skip
  simp only [valueN]
  have e0 : ¬ k = 0 := by omega
  have e1 : ¬ k = 1 := by omega
  have e2 : ¬ k = 2 := by omega
  have e9 : ¬ k = 9 := by omega
  have e10 : ¬ k = 10 := by omega
  simp only [e0, e1, e2, e9, e10, if_false]
theorem valueN_noX (o : FOp) (a a' b b' : Nat) (hk : (usesN o.kind).1 = true) (h : (usesN o.kind).2.1 = false) : valueN o a b = valueN o a' b' := by
  obtain ⟨k, z, x, y, n⟩ := o
  simp only at h hk
  rcases kinds16 k with rfl | rfl | rfl | rfl | rfl | rfl | rfl | rfl | rfl | rfl | rfl | rfl | rfl | rfl | rfl | rfl | h'
  case inr.inr.inr.inr.inr.inr.inr.inr.inr.inr.inr.inr.inr.inr.inr.inr => rw [usesN_off h'] at hk; cases hk
  all_goals first
    | (exact absurd h (by decide))
    | (simp only [valueN]; simp)
theorem kind_range {k : Int} (h : (usesN k).1 = true) : 0 ≤ k ∧ k ≤ 15 := by
  by_cases h' : k < 0 ∨ 15 < k
  · rw [usesN_off h'] at h; cases h
  · omega
theorem kind_off {k : Int} (h : (usesN k).1 = false) : k < 0 ∨ 15 < k := by
  rcases kinds16 k with rfl | rfl | rfl | rfl | rfl | rfl | rfl | rfl | rfl | rfl | rfl | rfl | rfl | rfl | rfl | rfl | h' <;> first | exact absurd h (by decide) | exact h'
section
variable {B ob n cap rb : Nat} {w0 w w' : World} {o : FOp} {v : Value} {r : List Nat}
theorem SR.drew (h : SR B w0 w ob o v n r) : SR B w0 w.drew ob o v n r := ⟨h.op, h.own.drew, ⟨h.bel.os, h.bel.tape, h.bel.output, h.bel.size, h.bel.block⟩, h.size, h.obB, h.rbl⟩
theorem SR.set (h : SR B w0 w ob o (.slice (some ⟨rb, 0, none⟩) n cap) n r) {c : Nat} (h1 : ob ≠ c) (h2 : c ≠ rb) (cs : Array Value) (h3 : B ≤ c) : SR B w0 (w.setRow c cs) ob o (.slice (some ⟨rb, 0, none⟩) n cap) n r :=
  ⟨heap_row _ h1 h.op, h.own.kept (fun b hb => by
    simp only [Value.ownBlock, Option.some.injEq] at hb
    subst hb
    exact setRow_other _ _ _ _ (Ne.symm h2)), ⟨h.bel.os, h.bel.tape, h.bel.output, by rw [setRow_size]; exact h.bel.size, fun k hk => (setRow_other _ _ _ _ (by omega)).trans (h.bel.block k hk)⟩, by rw [setRow_size]; exact h.size, h.obB, h.rbl⟩
theorem setCells_other (w : World) (b o : Nat) (vs : List Value) (c : Nat) (h : c ≠ b) : (w.setCells b o vs).heap[c]? = w.heap[c]? := by
  induction vs generalizing w o with
  | nil => rfl
  | cons v r ih => rw [World.setCells, ih]; exact Below.heap_setCell _ _ _ _ h
theorem Keep.setCells {R : Nat} {w w1 : World} (h : Keep R w w1) (o : Nat) (vs : List Value) : Keep R w (w1.setCells R o vs) := by
  have hg : ∀ (vs : List Value) (u : World) (o : Nat), (u.setCells R o vs).os = u.os ∧ (u.setCells R o vs).tape = u.tape ∧ (u.setCells R o vs).output = u.output ∧ (u.setCells R o vs).heap.size = u.heap.size := by
    intro vs
    induction vs with
    | nil => intro u o; exact ⟨rfl, rfl, rfl, rfl⟩
    | cons v r ih => intro u o; rw [World.setCells]; have := ih (u.setCell ⟨R, o, none⟩ v) (o + 1); exact ⟨this.1, this.2.1, this.2.2.1, this.2.2.2.trans (by simp [World.setCell])⟩
  have k := hg vs w1 o
  exact ⟨k.1.trans h.os, k.2.1.trans h.tape, k.2.2.1.trans h.output, by rw [k.2.2.2]; exact h.size, fun c hc hne => (setCells_other _ _ _ _ _ hne).trans (h.block c hc hne)⟩
theorem range_blk {w : World} {b : Nat} {cs : Array Value} {t : TypeId} {fr : Nat × Nat} (h : w.heap[b]? = some (.cells cs t fr)) : w.rangeAt b 0 cs.toList := by
  intro j u hu
  rw [Nat.zero_add, cell_of_row _ _ j _ _ _ h]
  simpa using hu
theorem still_load_at {P : Program} {ops : Array Oper} {w : World} {Q : Act → Prop} {a : Act} {op : Oper} {rest : List Oper} (hgd : op.guard = none) (ty : TypeId) (x : Operand) (ho : op.op = .load ty x) (d' : Option Tmp) (hd' : op.dst = d')
    (b off : Nat) (hx : a.eval x = .pointer (some ⟨b, off, none⟩)) (cs : Array Value) {d : TypeDesc} (hc : w.rangeAt b off cs.toList) (hu : P.underlying ty = some d) (hd : d.isRow = true) (hi : (P.info? ty).map (·.size) = some cs.size)
    (h : wpStill P ops w Q rest (a.put d' (.agg cs))) : wpStill P ops w Q (op :: rest) a := by
  subst hd'
  refine wpStill_step (fun K hK => ?_)
  have hw : Region.wanted op (yielded ops a.tmps) = true := by simp [Region.wanted, hgd]
  rw [if_pos hw]
  have hr := run_loadVar_mid (P := P) w b off ty cs.toList d hc hu hd (by rw [hi]; simp)
  unfold Oper.still execOp
  simp only [ho, hx, Instr.loadAt, Instr.sureAddr, Sem.run_bind, Sem.run_pure, Result.andThen_ok, hr, Oper.stillUpon_value]
  exact hK _ (by simpa using h)
theorem list_lt {r : List Nat} (h : ∀ x ∈ r, x < pF) (i : Nat) : r.getD i 0 < pF := by
  have := getN_lt h (i : Int)
  unfold getN at this
  rw [Int.toNat_natCast] at this
  exact this
end
set_option maxHeartbeats 3000000 in
theorem srun (sl so : Option Addr) (n cap cp : Nat) (S : Nat → Nat) (os : List FOp) (w : World) (hn : n * 32 ≤ 140737488351232) (hm : os.length ≤ 9223372036854775807)
    (hS : Hid (RowsAt w sl n 32 (fun i => arrC (S i)))) (hO : Hid (RowsAt w so os.length 5 (fun i => opO (os.getD i default)))) (hN : Hid (∀ i, i < os.length → (os.getD i default).n < 4294967296)) :
    Calls Tryd.prog 6 #[.slice sl n cap, .slice so os.length cp] w fun e w' => ∃ v, e = .returned v ∧ Below w.heap.size w w' ∧ Own w' w.heap.size 27 32 v n (fun i => (arrC ((runN (regs0 S n) os).getD i 0)).toList) := by
  go_enter Tryd.func6, Tryd.ntmps6
  go_wp2
  go_loopw [5, 6] (fun v i wr => ∃ k : Nat, k ≤ n ∧ i = .int .i64 (k : Int) ∧ Hid (Own wr w.heap.size 42 4 v k (nums (regs0 S k))) ∧ Hid (Below w.heap.size w wr)) (fun _ i _ => n - (intOf i).toNat)
  case atStart =>
    exact ⟨0, Nat.zero_le _, rfl, Lib.hid (Own.made _ _ _ _ _ (Nat.le_refl _)), Lib.hid (below_alloc (Below.refl _ w) _)⟩
  case round =>
    obtain ⟨k, hk, rfl, HP, HB⟩ := hrel
    have hs0 : w.heap.size ≤ wr.heap.size := HB.out.size
    by_cases hlt : k < n
    · obtain ⟨ab, ao, rfl, hab, hr⟩ := (hS.out.below HB.out) k hlt
      obtain ⟨N, qN⟩ : ∃ N, N = S k := ⟨_, rfl⟩
      change wr.rangeAt ab (ao + k * 32) (arrC (S k)).toList at hr
      rw [← qN] at hr
      obtain ⟨X, qX⟩ : ∃ X, X = valN N := ⟨_, rfl⟩
      have HN := Lib.hid qN; have HX := Lib.hid qX
      clear qN qX
      go_wp2_with ((with_reducible refine at_dst 26 ?_); refine wpList_load_at rfl 27 _ rfl (some 26) rfl ab (ao + k * 32) rfl (arrC N) hr under32 rfl (info32_of _ (arrC_size _)) ?_)
      refine (element_to N X HX _).mono ?_
      rintro e w1 ⟨rfl, hC⟩
      have hs1 : wr.heap.size ≤ w1.heap.size := hC.size
      have HP1 := Lib.hid (Own.below HP.out hC)
      have HB1 : Hid (Below w.heap.size w w1) := Lib.hid (below_step HB.out (Nat.le_refl _) hC)
      have hvb := Lib.hid (Own.lt HP1.out)
      clear hC hr hab
      go_wp2_with (first
        | ((with_reducible refine at_dst 28 ?_); refine wpList_build_one rfl 39 42 _ rfl w1.heap.size rfl (some 28) rfl underNs (numC X) rfl (builtN X) ?_)
        | (at_builtin; refine wpList_append_one rfl _ _ 39 rfl (some 29) rfl w.heap.size 42 (.agg z4) 4 32 underNs infoNums rfl (by decide) _ k (nums (regs0 S k)) rfl (Own.alloc HP1.out _) w1.heap.size 1 (numC X).toList rfl ?l1 ?l2 ?c1 ?c2 ?c3 ?c4 ?_))
      case l1 => rw [Array.length_toList, numC_size]
      case l2 => exact new_range _ _ _
      case c1 => exact numC_ones X
      case c2 => unfold maxLen; omega
      case c3 => omega
      case c4 => rw [alloc_size]; omega
      intro v' w2 hown hgrow
      have HP2 : Hid (Own w2 w.heap.size 42 4 v' (k + 1) (nums (regs0 S (k + 1)))) := Lib.hid (Own.congr hown fun i hi => by
        unfold nums
        rw [regs0_succ, getD_push _ _ _ (by rw [regs0_length]; exact hi), regs0_length]
        by_cases h : i < k <;> simp [h, HX.out, HN.out])
      have HB2 : Hid (Below w.heap.size w w2) := Lib.hid ((below_alloc HB1.out _).trans (grown_below hgrow (fun c hc => (hvb.out c hc).1) (by rw [alloc_size]; omega)))
      clear hown hgrow
      go_wp2
      go_roundw
      case rel => exact ⟨k + 1, by omega, by go_num, HP2, HB2⟩
      case measure => simp [intOf]; omega
    · obtain rfl : k = n := by omega
      obtain ⟨sl2, cap2, rfl, hf⟩ := Own.form HP.out
      have Hf := Lib.hid hf; clear hf
      go_wp2
      go_loopw [7] (fun i wr => ∃ j : Nat, j ≤ os.length ∧ i = .int .i64 (j : Int) ∧ Hid (Own wr w.heap.size 42 4 (.slice sl2 k cap2) k (nums (runN (regs0 S k) (os.take j)))) ∧ Hid (Below w.heap.size w wr)) (fun i _ => os.length - (intOf i).toNat)
      case atStart => exact ⟨0, Nat.zero_le _, rfl, HP, HB⟩
      case round =>
        clear HP HB hs0
        obtain ⟨j, hj, rfl, HP, HB⟩ := hrel
        have hs0 : w.heap.size ≤ wr.heap.size := HB.out.size
        obtain ⟨r, qr⟩ : ∃ r, r = runN (regs0 S k) (os.take j) := ⟨_, rfl⟩
        rw [← qr] at HP
        have hl : r.length = k := by rw [qr, runN_length, regs0_length]
        have hrp : ∀ x ∈ r, x < pF := by
          rw [qr]
          refine runN_lt _ fun x hx => ?_
          unfold regs0 at hx
          obtain ⟨i, _, rfl⟩ := List.mem_map.1 hx
          exact valN_lt' _
        by_cases hlt2 : j < os.length
        · obtain ⟨ob, oo, rfl, hob, hr⟩ := (hO.out.below HB.out) j hlt2
          obtain ⟨o, qo⟩ : ∃ o, o = os.getD j default := ⟨_, rfl⟩
          change wr.rangeAt ob (oo + j * 5) (opO (os.getD j default)).toList at hr
          have hno := hN.out j hlt2
          have hrun := runN_succ (regs0 S k) os j hlt2
          rw [← qo] at hr hno hrun
          rw [← qr] at hrun
          have Hrun := Lib.hid hrun
          have Hl := Lib.hid hl
          have Hrp := Lib.hid hrp
          clear qo qr hrun hl hrp
          go_upto_region 10 with (first
            | ((with_reducible refine at_dst 39 ?_); refine wpList_load_at rfl 33 _ rfl (some 39) rfl ob (oo + j * 5) rfl (opO o) hr underOp rfl infoOp ?_)
            | ((with_reducible refine at_store 8 ?_); refine wpList_store_row rfl 33 _ _ rfl (wr.heap.size) (opO o) rfl rfl 33 (zOp) (heap_new_at _ _ _ rfl) infoOp rfl (opO_one o) ?_))
          refine wp_named ?_
          intro w1 ew1
          have hg : w1.heap[wr.heap.size]? = some (.cells (opO o) 33 (0, 0)) := by rw [ew1]; exact (setRow_heap _ _ _ _ _ _ (heap_new_at _ _ _ rfl))
          have hBn : Below wr.heap.size wr w1 := by rw [ew1]; exact below_new0 _ _ _ _
          clear ew1 hr hob
          have HS : Hid (SR w.heap.size w w1 wr.heap.size o (.slice sl2 k cap2) k r) := Lib.hid ⟨hg, HP.out.below hBn, below_step HB.out (Nat.le_refl _) hBn, Nat.le_trans hs0 hBn.size, hs0, fun b hb => (Own.lt HP.out b hb).2⟩
          have k0 := HS.out.k0
          have hu := suses_any o.kind w1
          clear hBn HP HB hg
          rcases uses_forms o.kind with huf | huf | huf | huf
          · rw [huf] at hu
            simp only at hu
            have k1 := HS.out.k1; have k2 := HS.out.k2; have k3 := HS.out.k3
            rcases kind_off (k := o.kind) (by rw [huf]) with hoff | hoff
            · go_wp2_with fail
              refine hu.mono ?_
              rintro e w2 ⟨rfl, hw⟩
              rw [hw]
              clear hw w2 hu
              have hm : madeN o r.length = false := by rw [Hl.out]; simp [madeN, huf]
              have hst := Lib.hid (stepN_no hm)
              clear hm
              go_wp2
              go_roundw
              case rel => exact ⟨j + 1, by omega, by go_num, by rw [Hrun.out, hst.out]; exact Lib.hid HS.out.own, Lib.hid HS.out.bel⟩
              case measure => simp [intOf]; omega
            · have hoff0 : 0 ≤ o.kind := by omega
              go_wp2_with fail
              refine hu.mono ?_
              rintro e w2 ⟨rfl, hw⟩
              rw [hw]
              clear hw w2 hu
              have hm : madeN o r.length = false := by rw [Hl.out]; simp [madeN, huf]
              have hst := Lib.hid (stepN_no hm)
              clear hm
              go_wp2
              go_roundw
              case rel => exact ⟨j + 1, by omega, by go_num, by rw [Hrun.out, hst.out]; exact Lib.hid HS.out.own, Lib.hid HS.out.bel⟩
              case measure => simp [intOf]; omega
          · rw [huf] at hu
            simp only at hu
            have hkr := kind_range (k := o.kind) (by rw [huf])
            have hk0 := hkr.1; have hk15 := hkr.2
            have k1 := HS.out.k1; have k2 := HS.out.k2; have k3 := HS.out.k3
            go_wp2_with fail
            refine hu.mono ?_
            rintro e w2 ⟨rfl, hw⟩
            rw [hw]
            clear hw w2 hu
            cases rz : regN o.z k with
            | true =>
              go_wp2_with fail
              generalize hw2 : w1.alloc (.cells #[.int .i64 o.z] 3) = w2
              have hA : Below w1.heap.size w1 w2 := by rw [← hw2]; exact below_alloc (Below.refl _ _) _
              have hc : w2.cell? ⟨w1.heap.size, 0, none⟩ = some (.int .i64 o.z) := by rw [← hw2]; exact cell_of_row _ _ 0 _ _ _ (heap_new _ _)
              have hT := there_any k o.z w1.heap.size w2 hc
              rw [rz] at hT
              replace HS := Lib.hid (HS.out.below hA)
              clear k0 k1 k2 k3
              have k0 := HS.out.k0; have k1 := HS.out.k1; have k2 := HS.out.k2; have k3 := HS.out.k3
              clear hw2 hc hA
              refine hT.mono ?_
              rintro e w9 ⟨rfl, hw⟩
              rw [hw]
              clear hw w9 hT
              cases rx : regN o.x k with
              | true =>
                go_wp2_with fail
                generalize hw2 : w2.alloc (.cells #[.int .i64 o.x] 3) = w3
                have hA : Below w2.heap.size w2 w3 := by rw [← hw2]; exact below_alloc (Below.refl _ _) _
                have hc : w3.cell? ⟨w2.heap.size, 0, none⟩ = some (.int .i64 o.x) := by rw [← hw2]; exact cell_of_row _ _ 0 _ _ _ (heap_new _ _)
                have hT := there_any k o.x w2.heap.size w3 hc
                rw [rx] at hT
                replace HS := Lib.hid (HS.out.below hA)
                clear k0 k1 k2 k3
                have k0 := HS.out.k0; have k1 := HS.out.k1; have k2 := HS.out.k2; have k3 := HS.out.k3
                clear hw2 hc hA
                refine hT.mono ?_
                rintro e w9 ⟨rfl, hw⟩
                rw [hw]
                clear hw w9 hT
                cases ry : regN o.y k with
                | true =>
                  go_wp2_with fail
                  generalize hw2 : w3.alloc (.cells #[.int .i64 o.y] 3) = w4
                  have hA : Below w3.heap.size w3 w4 := by rw [← hw2]; exact below_alloc (Below.refl _ _) _
                  have hc : w4.cell? ⟨w3.heap.size, 0, none⟩ = some (.int .i64 o.y) := by rw [← hw2]; exact cell_of_row _ _ 0 _ _ _ (heap_new _ _)
                  have hT := there_any k o.y w3.heap.size w4 hc
                  rw [ry] at hT
                  replace HS := Lib.hid (HS.out.below hA)
                  clear k0 k1 k2 k3
                  have k0 := HS.out.k0; have k1 := HS.out.k1; have k2 := HS.out.k2; have k3 := HS.out.k3
                  clear hw2 hc hA
                  refine hT.mono ?_
                  rintro e w9 ⟨rfl, hw⟩
                  rw [hw]
                  clear hw w9 hT
                  have hm : madeN o r.length = true := by rw [Hl.out]; simp [madeN, huf, rz, rx, ry]
                  have hpos : 0 < k := by have := made_pos hm; rw [Hl.out] at this; exact this
                  obtain ⟨rb, rfl, _, _⟩ := Hf.out hpos
                  have hrb0 : rb < wr.heap.size := HS.out.rbl rb rfl
                  have hob0 : wr.heap.size < w4.heap.size := heap_lt HS.out.op
                  have hst : stepN o r = if o.kind = 11 then (if o.n % 2 = 1 then (r.set o.x.toNat (getN r o.z)).set o.z.toNat (getN r o.x) else r) else r.set o.z.toNat (valueN o (getN r o.x) (getN r o.y)) := by unfold stepN; rw [if_pos hm]
                  have hkr := kind_range (k := o.kind) (by rw [huf])
                  obtain ⟨z, hz, lz⟩ := regN_true rz
                  have tz : o.z.toNat = z := by rw [hz]; exact Int.toNat_natCast z
                  have gz : getN r o.z = r.getD z 0 := by unfold getN; rw [tz]
                  obtain ⟨x, hx, lx⟩ := regN_true rx
                  have tx : o.x.toNat = x := by rw [hx]; exact Int.toNat_natCast x
                  have gx : getN r o.x = r.getD x 0 := by unfold getN; rw [tx]
                  obtain ⟨y, hy, ly⟩ := regN_true ry
                  have ty : o.y.toNat = y := by rw [hy]; exact Int.toNat_natCast y
                  have gy : getN r o.y = r.getD y 0 := by unfold getN; rw [ty]
                  rw [tz, gz, tx, gx, gy] at hst
                  have Hst := Lib.hid hst; clear hst hm hpos tz gz tx gx ty gy
                  go_upto_region 13 with (first
                    | ((with_reducible refine at_store 11 ?_); refine wpList_store_row rfl 42 _ _ rfl (w4.heap.size) (z4) rfl rfl 42 (z4) (heap_old _ (heap_new_at _ _ _ rfl)) (infoNum_of (z4) z4_size) (z4_size.trans z4_size.symm) z4_one ?_)
                    | ((with_reducible refine at_store 12 ?_); refine wpList_store_row rfl 42 _ _ rfl (w4.heap.size + 1) (z4) rfl rfl 42 (z4) (heap_row _ (by omega) (heap_new_at _ _ _ (by simp only [alloc_size]))) (infoNum_of (z4) z4_size) (z4_size.trans z4_size.symm) z4_one ?_))
                  refine wp_named ?_
                  intro w5 e5
                  have h11 : w5.heap[w4.heap.size]? = some (.cells (numC 0) 42 (0, 0)) := by rw [e5, ← numC_zero]; exact heap_row _ (by omega) (setRow_heap _ _ _ _ _ _ (heap_old _ (heap_new_at _ _ _ rfl)))
                  have h12 : w5.heap[w4.heap.size + 1]? = some (.cells (numC 0) 42 (0, 0)) := by rw [e5, ← numC_zero]; exact setRow_heap _ _ _ _ _ _ (heap_row _ (by omega) (heap_new_at _ _ _ (by simp only [alloc_size])))
                  have hA : Below w4.heap.size w4 w5 := by rw [e5]; exact below_setRow (below_setRow (below_alloc (below_alloc (Below.refl _ _) _) _) (by omega) _) (by omega) _
                  replace HS := Lib.hid (HS.out.below hA)
                  clear e5
                  obtain ⟨b1, hb1⟩ : ∃ b, b = w4.heap.size := ⟨_, rfl⟩
                  have hbs : w4.heap.size ≤ w5.heap.size := hA.size
                  have hsW := HS.out.obB
                  have hob1 : wr.heap.size < b1 := by rw [hb1]; exact hob0
                  rw [← hb1] at h11 h12 ⊢
                  clear hA k0 k1 k2 k3
                  have hrb : Hid (∀ c, b1 ≤ c → c ≠ rb) := Lib.hid (fun c hc e => by omega)
                  have hobrb : Hid (wr.heap.size ≠ rb) := Lib.hid (by omega)
                  clear hrb0 hob0 hb1 hbs
                  have k2 := HS.out.k2
                  rw [hx] at k2
                  have hrx := Own.range HS.out.own lx
                  change w5.rangeAt rb (x * 4) (numC (r.getD x 0)).toList at hrx
                  obtain ⟨X, qX⟩ : ∃ u, u = r.getD x 0 := ⟨_, rfl⟩
                  rw [← qX] at hrx
                  have HX := Lib.hid qX; clear qX
                  go_upto_region 15 with (first
                    | ((with_reducible refine at_dst 94 ?_); refine wpList_load_at rfl 42 _ rfl (some 94) rfl rb (x * 4) rfl (numC X) hrx underNum rfl (infoNum_of _ (numC_size _)) ?_)
                    | ((with_reducible refine at_store 11 ?_); refine wpList_store_row rfl 42 _ _ rfl (b1) (numC X) rfl rfl 42 (numC 0) (h11) (infoNum_of (numC X) (numC_size _)) ((numC_size _).trans (numC_size _).symm) (numC_one _) ?_))
                  refine wp_named ?_
                  intro w6 ew6
                  replace h12 : w6.heap[b1 + 1]? = some (.cells (numC 0) 42 (0, 0)) := by rw [ew6]; exact heap_row _ (by omega) h12
                  replace h11 : w6.heap[b1]? = some (.cells (numC X) 42 (0, 0)) := by rw [ew6]; exact setRow_heap _ _ _ _ _ _ h11
                  replace HS : Hid (SR w.heap.size w w6 wr.heap.size o (.slice (some ⟨rb, 0, none⟩) k cap2) k r) := by rw [ew6]; exact Lib.hid (HS.out.set (by omega) (hrb.out _ (by omega)) _ (by omega))
                  clear ew6 k2 hrx
                  have k3 := HS.out.k3
                  rw [hy] at k3
                  have hry := Own.range HS.out.own ly
                  change w6.rangeAt rb (y * 4) (numC (r.getD y 0)).toList at hry
                  obtain ⟨Y, qY⟩ : ∃ u, u = r.getD y 0 := ⟨_, rfl⟩
                  rw [← qY] at hry
                  have HY := Lib.hid qY; clear qY
                  go_upto_region 17 with (first
                    | ((with_reducible refine at_dst 100 ?_); refine wpList_load_at rfl 42 _ rfl (some 100) rfl rb (y * 4) rfl (numC Y) hry underNum rfl (infoNum_of _ (numC_size _)) ?_)
                    | ((with_reducible refine at_store 12 ?_); refine wpList_store_row rfl 42 _ _ rfl (b1 + 1) (numC Y) rfl rfl 42 (numC 0) (h12) (infoNum_of (numC Y) (numC_size _)) ((numC_size _).trans (numC_size _).symm) (numC_one _) ?_))
                  refine wp_named ?_
                  intro w7 ew7
                  replace h11 : w7.heap[b1]? = some (.cells (numC X) 42 (0, 0)) := by rw [ew7]; exact heap_row _ (by omega) h11
                  replace h12 : w7.heap[b1 + 1]? = some (.cells (numC Y) 42 (0, 0)) := by rw [ew7]; exact setRow_heap _ _ _ _ _ _ h12
                  replace HS : Hid (SR w.heap.size w w7 wr.heap.size o (.slice (some ⟨rb, 0, none⟩) k cap2) k r) := by rw [ew7]; exact Lib.hid (HS.out.set (by omega) (hrb.out _ (by omega)) _ (by omega))
                  clear ew7 k3 hry
                  have h11k : ¬ o.kind = 11 := by intro h; rw [h] at huf; exact absurd huf (by decide)
                  have k0 := HS.out.k0
                  have k1 := HS.out.k1
                  rw [hz] at k1
                  obtain ⟨V, qV⟩ : ∃ u, u = valueN o X Y := ⟨_, rfl⟩
                  have HV := Lib.hid qV
                  have eV : valueN o (r.getD x 0) (r.getD y 0) = V := by rw [qV]; rw [HX.out, HY.out]
                  have HeV := Lib.hid eV
                  clear qV eV
                  go_wp2_with fail
                  try simp only [Act.put]
                  refine wp_region_noPanic ?_
                  refine wp_region_held_drew (S := Keep rb w7) (by kernel_rfl) (Keep.start _ _) ?_
                  intro hS
                  obtain ⟨wd, ed⟩ : ∃ u : World, u = w7.drew := ⟨_, rfl⟩
                  rw [← ed] at hS ⊢
                  have HS0 := HS
                  replace HS : Hid (SR w.heap.size w wd wr.heap.size o (.slice (some ⟨rb, 0, none⟩) k cap2) k r) := by rw [ed]; exact Lib.hid HS0.out.drew
                  clear ed
                  refine takeAt (i := 0) (v := .slice (some ⟨rb, 0, none⟩) k cap2) rfl (some 104) rfl (by kernel_rfl) (by kernel_rfl) (by kernel_rfl) (fun _ _ _ h => h) (take_run rfl (fun _ _ => by go_simp)) hS ?_
                  simp only [Act.put, List.setIfInBounds_toArray, List.set_cons_zero, List.set_cons_succ]
                  refine takeAt (i := 1) (v := .pointer (some ⟨wr.heap.size, 1, none⟩)) rfl (some 105) rfl (by kernel_rfl) (by kernel_rfl) (by kernel_rfl) (fun _ _ _ h => h) (take_run rfl (fun _ _ => by go_simp)) hS ?_
                  simp only [Act.put, List.setIfInBounds_toArray, List.set_cons_zero, List.set_cons_succ]
                  refine takeAt (i := 2) (v := .int .i64 (z : Int)) rfl (some 106) rfl (by kernel_rfl) (by kernel_rfl) (by kernel_rfl) (fun _ _ _ h => h) (take_run rfl (fun u hK => by have cc := Keep.cell hK k1 hobrb.out; go_simp)) hS ?_
                  simp only [Act.put, List.setIfInBounds_toArray, List.set_cons_zero, List.set_cons_succ]
                  refine takeAt (i := 3) (v := .agg (opO o)) rfl (some 107) rfl (by kernel_rfl) (by kernel_rfl) (by kernel_rfl) (fun _ _ _ h => h) (take_row rfl _ _ rfl (wr.heap.size) rfl _ _ _ HS0.out.op hobrb.out underOp rfl infoOp) hS ?_
                  simp only [Act.put, List.setIfInBounds_toArray, List.set_cons_zero, List.set_cons_succ]
                  refine takeAt (i := 4) (v := .agg (numC X)) rfl (some 108) rfl (by kernel_rfl) (by kernel_rfl) (by kernel_rfl) (fun _ _ _ h => h) (take_row rfl _ _ rfl b1 rfl _ _ _ h11 (hrb.out _ (by omega)) underNum rfl (infoNum_of _ (numC_size _))) hS ?_
                  simp only [Act.put, List.setIfInBounds_toArray, List.set_cons_zero, List.set_cons_succ]
                  refine takeAt (i := 5) (v := .agg (numC Y)) rfl (some 109) rfl (by kernel_rfl) (by kernel_rfl) (by kernel_rfl) (fun _ _ _ h => h) (take_row rfl _ _ rfl (b1 + 1) rfl _ _ _ h12 (hrb.out _ (by omega)) underNum rfl (infoNum_of _ (numC_size _))) hS ?_
                  simp only [Act.put, List.setIfInBounds_toArray, List.set_cons_zero, List.set_cons_succ]
                  refine wpAnyH_ready (rs := [6]) (by kernel_rfl) (by simp) ?_
                  refine (AllReadyH.cons rfl ?_ AllReadyH.nil)
                  intro K hK
                  refine ready_call rfl (some 110) rfl 15 #[.agg (opO o), .agg (numC X), .agg (numC Y)] (by go_simp) ?_
                  refine (value_any o X Y hno hkr.1 hkr.2 h11k (by rw [HX.out]; exact list_lt Hrp.out x) (by rw [HY.out]; exact list_lt Hrp.out y) _).mono ?_
                  rw [← HV.out]
                  rintro e w8 ⟨rfl, hC⟩
                  refine ⟨_, rfl, ?_⟩
                  simp only [Act.put, List.setIfInBounds_toArray, List.set_cons_zero, List.set_cons_succ]
                  replace HS := Lib.hid (HS.out.below hC)
                  have hS := hS.call hC
                  clear k0 k1 h11 h12 hC HS0
                  refine hK.out _ _ hS ?_
                  clear hK K
                  intro _
                  refine takeAt (i := 7) (v := .pointer (some ⟨rb, z * 4, none⟩)) rfl (some 111) rfl (by kernel_rfl) (by kernel_rfl) (by kernel_rfl) (fun _ _ _ h => h) (take_run rfl (fun _ _ => by go_simp)) hS ?_
                  simp only [Act.put, List.setIfInBounds_toArray, List.set_cons_zero, List.set_cons_succ]
                  have hth := Own.there HS.out.own lz
                  refine wpAnyH_ready (rs := [8]) (by kernel_rfl) (by simp) ?_
                  refine (AllReadyH.cons rfl ?_ AllReadyH.nil)
                  intro K hK
                  rw [if_pos (by rfl)]
                  refine wp_store_mid 42 _ _ rfl rb (z * 4) (numC V) rfl rfl (by rw [numC_size]; exact hth) (infoNum_of _ (numC_size _)) (numC_one _) ?_
                  refine put_at (none) rfl ?_
                  try simp only [Act.put, List.setIfInBounds_toArray, List.set_cons_zero, List.set_cons_succ]
                  refine hK.out _ _ (Keep.setCells hS _ _) ?_
                  clear hK K
                  intro _
                  refine wpAnyH_done (by kernel_rfl) ?_ _
                  refine NoPanic.normal ?_
                  clear hS
                  have hns := nums_store HS.out.own Hl.out lz V HS.out.size
                  go_wp2
                  go_roundw
                  case rel => exact ⟨j + 1, by omega, by go_num, Lib.hid (by rw [Hrun.out, Hst.out, if_neg h11k, HeV.out]; exact hns.1), Lib.hid (HS.out.bel.trans hns.2)⟩
                  case measure => simp [intOf]; omega
                | false =>
                  go_wp2_with fail
                  generalize hw2 : w3.alloc (.cells #[.int .i64 o.y] 3) = w4
                  have hA : Below w3.heap.size w3 w4 := by rw [← hw2]; exact below_alloc (Below.refl _ _) _
                  have hc : w4.cell? ⟨w3.heap.size, 0, none⟩ = some (.int .i64 o.y) := by rw [← hw2]; exact cell_of_row _ _ 0 _ _ _ (heap_new _ _)
                  have hT := there_any k o.y w3.heap.size w4 hc
                  rw [ry] at hT
                  replace HS := Lib.hid (HS.out.below hA)
                  clear k0 k1 k2 k3
                  have k0 := HS.out.k0; have k1 := HS.out.k1; have k2 := HS.out.k2; have k3 := HS.out.k3
                  clear hw2 hc hA
                  refine hT.mono ?_
                  rintro e w9 ⟨rfl, hw⟩
                  rw [hw]
                  clear hw w9 hT
                  have hm : madeN o r.length = false := by rw [Hl.out]; simp [madeN, huf, rz, rx, ry]
                  have hst := Lib.hid (stepN_no hm)
                  clear hm
                  go_wp2
                  go_roundw
                  case rel => exact ⟨j + 1, by omega, by go_num, by rw [Hrun.out, hst.out]; exact Lib.hid HS.out.own, Lib.hid HS.out.bel⟩
                  case measure => simp [intOf]; omega
              | false =>
                go_wp2_with fail
                generalize hw2 : w2.alloc (.cells #[.int .i64 o.x] 3) = w3
                have hA : Below w2.heap.size w2 w3 := by rw [← hw2]; exact below_alloc (Below.refl _ _) _
                have hc : w3.cell? ⟨w2.heap.size, 0, none⟩ = some (.int .i64 o.x) := by rw [← hw2]; exact cell_of_row _ _ 0 _ _ _ (heap_new _ _)
                have hT := there_any k o.x w2.heap.size w3 hc
                rw [rx] at hT
                replace HS := Lib.hid (HS.out.below hA)
                clear k0 k1 k2 k3
                have k0 := HS.out.k0; have k1 := HS.out.k1; have k2 := HS.out.k2; have k3 := HS.out.k3
                clear hw2 hc hA
                refine hT.mono ?_
                rintro e w9 ⟨rfl, hw⟩
                rw [hw]
                clear hw w9 hT
                have hm : madeN o r.length = false := by rw [Hl.out]; simp [madeN, huf, rz, rx]
                have hst := Lib.hid (stepN_no hm)
                clear hm
                go_wp2
                go_roundw
                case rel => exact ⟨j + 1, by omega, by go_num, by rw [Hrun.out, hst.out]; exact Lib.hid HS.out.own, Lib.hid HS.out.bel⟩
                case measure => simp [intOf]; omega
            | false =>
              go_wp2_with fail
              generalize hw2 : w1.alloc (.cells #[.int .i64 o.z] 3) = w2
              have hA : Below w1.heap.size w1 w2 := by rw [← hw2]; exact below_alloc (Below.refl _ _) _
              have hc : w2.cell? ⟨w1.heap.size, 0, none⟩ = some (.int .i64 o.z) := by rw [← hw2]; exact cell_of_row _ _ 0 _ _ _ (heap_new _ _)
              have hT := there_any k o.z w1.heap.size w2 hc
              rw [rz] at hT
              replace HS := Lib.hid (HS.out.below hA)
              clear k0 k1 k2 k3
              have k0 := HS.out.k0; have k1 := HS.out.k1; have k2 := HS.out.k2; have k3 := HS.out.k3
              clear hw2 hc hA
              refine hT.mono ?_
              rintro e w9 ⟨rfl, hw⟩
              rw [hw]
              clear hw w9 hT
              have hm : madeN o r.length = false := by rw [Hl.out]; simp [madeN, huf, rz]
              have hst := Lib.hid (stepN_no hm)
              clear hm
              go_wp2
              go_roundw
              case rel => exact ⟨j + 1, by omega, by go_num, by rw [Hrun.out, hst.out]; exact Lib.hid HS.out.own, Lib.hid HS.out.bel⟩
              case measure => simp [intOf]; omega
          · rw [huf] at hu
            simp only at hu
            have hkr := kind_range (k := o.kind) (by rw [huf])
            have hk0 := hkr.1; have hk15 := hkr.2
            have k1 := HS.out.k1; have k2 := HS.out.k2; have k3 := HS.out.k3
            go_wp2_with fail
            refine hu.mono ?_
            rintro e w2 ⟨rfl, hw⟩
            rw [hw]
            clear hw w2 hu
            cases rz : regN o.z k with
            | true =>
              go_wp2_with fail
              generalize hw2 : w1.alloc (.cells #[.int .i64 o.z] 3) = w2
              have hA : Below w1.heap.size w1 w2 := by rw [← hw2]; exact below_alloc (Below.refl _ _) _
              have hc : w2.cell? ⟨w1.heap.size, 0, none⟩ = some (.int .i64 o.z) := by rw [← hw2]; exact cell_of_row _ _ 0 _ _ _ (heap_new _ _)
              have hT := there_any k o.z w1.heap.size w2 hc
              rw [rz] at hT
              replace HS := Lib.hid (HS.out.below hA)
              clear k0 k1 k2 k3
              have k0 := HS.out.k0; have k1 := HS.out.k1; have k2 := HS.out.k2; have k3 := HS.out.k3
              clear hw2 hc hA
              refine hT.mono ?_
              rintro e w9 ⟨rfl, hw⟩
              rw [hw]
              clear hw w9 hT
              cases rx : regN o.x k with
              | true =>
                go_wp2_with fail
                generalize hw2 : w2.alloc (.cells #[.int .i64 o.x] 3) = w3
                have hA : Below w2.heap.size w2 w3 := by rw [← hw2]; exact below_alloc (Below.refl _ _) _
                have hc : w3.cell? ⟨w2.heap.size, 0, none⟩ = some (.int .i64 o.x) := by rw [← hw2]; exact cell_of_row _ _ 0 _ _ _ (heap_new _ _)
                have hT := there_any k o.x w2.heap.size w3 hc
                rw [rx] at hT
                replace HS := Lib.hid (HS.out.below hA)
                clear k0 k1 k2 k3
                have k0 := HS.out.k0; have k1 := HS.out.k1; have k2 := HS.out.k2; have k3 := HS.out.k3
                clear hw2 hc hA
                refine hT.mono ?_
                rintro e w9 ⟨rfl, hw⟩
                rw [hw]
                clear hw w9 hT
                have hm : madeN o r.length = true := by rw [Hl.out]; simp [madeN, huf, rz, rx]
                have hpos : 0 < k := by have := made_pos hm; rw [Hl.out] at this; exact this
                obtain ⟨rb, rfl, _, _⟩ := Hf.out hpos
                have hrb0 : rb < wr.heap.size := HS.out.rbl rb rfl
                have hob0 : wr.heap.size < w3.heap.size := heap_lt HS.out.op
                have hst : stepN o r = if o.kind = 11 then (if o.n % 2 = 1 then (r.set o.x.toNat (getN r o.z)).set o.z.toNat (getN r o.x) else r) else r.set o.z.toNat (valueN o (getN r o.x) (getN r o.y)) := by unfold stepN; rw [if_pos hm]
                have hkr := kind_range (k := o.kind) (by rw [huf])
                obtain ⟨z, hz, lz⟩ := regN_true rz
                have tz : o.z.toNat = z := by rw [hz]; exact Int.toNat_natCast z
                have gz : getN r o.z = r.getD z 0 := by unfold getN; rw [tz]
                obtain ⟨x, hx, lx⟩ := regN_true rx
                have tx : o.x.toNat = x := by rw [hx]; exact Int.toNat_natCast x
                have gx : getN r o.x = r.getD x 0 := by unfold getN; rw [tx]
                rw [tz, gz, tx, gx] at hst
                have Hst := Lib.hid hst; clear hst hm hpos tz gz tx gx
                go_upto_region 13 with (first
                  | ((with_reducible refine at_store 11 ?_); refine wpList_store_row rfl 42 _ _ rfl (w3.heap.size) (z4) rfl rfl 42 (z4) (heap_old _ (heap_new_at _ _ _ rfl)) (infoNum_of (z4) z4_size) (z4_size.trans z4_size.symm) z4_one ?_)
                  | ((with_reducible refine at_store 12 ?_); refine wpList_store_row rfl 42 _ _ rfl (w3.heap.size + 1) (z4) rfl rfl 42 (z4) (heap_row _ (by omega) (heap_new_at _ _ _ (by simp only [alloc_size]))) (infoNum_of (z4) z4_size) (z4_size.trans z4_size.symm) z4_one ?_))
                refine wp_named ?_
                intro w5 e5
                have h11 : w5.heap[w3.heap.size]? = some (.cells (numC 0) 42 (0, 0)) := by rw [e5, ← numC_zero]; exact heap_row _ (by omega) (setRow_heap _ _ _ _ _ _ (heap_old _ (heap_new_at _ _ _ rfl)))
                have h12 : w5.heap[w3.heap.size + 1]? = some (.cells (numC 0) 42 (0, 0)) := by rw [e5, ← numC_zero]; exact setRow_heap _ _ _ _ _ _ (heap_row _ (by omega) (heap_new_at _ _ _ (by simp only [alloc_size])))
                have hA : Below w3.heap.size w3 w5 := by rw [e5]; exact below_setRow (below_setRow (below_alloc (below_alloc (Below.refl _ _) _) _) (by omega) _) (by omega) _
                replace HS := Lib.hid (HS.out.below hA)
                clear e5
                obtain ⟨b1, hb1⟩ : ∃ b, b = w3.heap.size := ⟨_, rfl⟩
                have hbs : w3.heap.size ≤ w5.heap.size := hA.size
                have hsW := HS.out.obB
                have hob1 : wr.heap.size < b1 := by rw [hb1]; exact hob0
                rw [← hb1] at h11 h12 ⊢
                clear hA k0 k1 k2 k3
                have hrb : Hid (∀ c, b1 ≤ c → c ≠ rb) := Lib.hid (fun c hc e => by omega)
                have hobrb : Hid (wr.heap.size ≠ rb) := Lib.hid (by omega)
                clear hrb0 hob0 hb1 hbs
                have k2 := HS.out.k2
                rw [hx] at k2
                have hrx := Own.range HS.out.own lx
                change w5.rangeAt rb (x * 4) (numC (r.getD x 0)).toList at hrx
                obtain ⟨X, qX⟩ : ∃ u, u = r.getD x 0 := ⟨_, rfl⟩
                rw [← qX] at hrx
                have HX := Lib.hid qX; clear qX
                go_upto_region 15 with (first
                  | ((with_reducible refine at_dst 94 ?_); refine wpList_load_at rfl 42 _ rfl (some 94) rfl rb (x * 4) rfl (numC X) hrx underNum rfl (infoNum_of _ (numC_size _)) ?_)
                  | ((with_reducible refine at_store 11 ?_); refine wpList_store_row rfl 42 _ _ rfl (b1) (numC X) rfl rfl 42 (numC 0) (h11) (infoNum_of (numC X) (numC_size _)) ((numC_size _).trans (numC_size _).symm) (numC_one _) ?_))
                refine wp_named ?_
                intro w6 ew6
                replace h12 : w6.heap[b1 + 1]? = some (.cells (numC 0) 42 (0, 0)) := by rw [ew6]; exact heap_row _ (by omega) h12
                replace h11 : w6.heap[b1]? = some (.cells (numC X) 42 (0, 0)) := by rw [ew6]; exact setRow_heap _ _ _ _ _ _ h11
                replace HS : Hid (SR w.heap.size w w6 wr.heap.size o (.slice (some ⟨rb, 0, none⟩) k cap2) k r) := by rw [ew6]; exact Lib.hid (HS.out.set (by omega) (hrb.out _ (by omega)) _ (by omega))
                clear ew6 k2 hrx
                by_cases h11k : o.kind = 11
                · have k0 := HS.out.k0
                  have k1 := HS.out.k1
                  have k2 := HS.out.k2
                  have k4 := HS.out.k4
                  rw [hz] at k1
                  rw [hx] at k2
                  rw [h11k] at k0
                  have hki := Lib.hid h11k; clear h11k
                  by_cases ho : o.n % 2 = 1
                  · have ho2 : ((o.n : Int) % 2) = 1 := by omega
                    have hrz := Own.range HS.out.own lz
                    change w6.rangeAt rb (z * 4) (numC (r.getD z 0)).toList at hrz
                    obtain ⟨Z, qZ⟩ : ∃ u, u = r.getD z 0 := ⟨_, rfl⟩
                    rw [← qZ] at hrz
                    have HZ := Lib.hid qZ; clear qZ
                    have hth := Own.there HS.out.own lx
                    go_wp2
                    go_still_tail 9, (by kernel_rfl)
                    refine still_load_at (w := w6.drew) rfl 42 _ rfl (some 123) rfl rb (z * 4) rfl (numC Z) hrz underNum rfl (infoNum_of _ (numC_size _)) ?_
                    simp only [Act.put, List.setIfInBounds_toArray, List.set_cons_zero, List.set_cons_succ]
                    still_step
                    refine wpStill_nil ?_
                    change wpList _ _ _ _ _ w6.drew
                    go_upto_region 21 with (first
                      | ((with_reducible refine at_store 124 ?_); refine wpList_store_at rfl 42 _ _ rfl rb (x * 4) (numC Z) rfl rfl 4 (numC_size _).symm hth (infoNum_of _ (numC_size _)) (numC_one _) ?_))
                    refine wp_named ?_
                    intro w8 e8
                    have hns := nums_store HS.out.drew.own Hl.out lx Z HS.out.drew.size
                    rw [← e8] at hns
                    have h11' : w8.heap[b1]? = some (.cells (numC X) 42 (0, 0)) := by rw [e8]; exact (setCells_other _ _ _ _ _ (hrb.out _ (by omega))).trans h11
                    have hop' : w8.heap[wr.heap.size]? = some (.cells (opO o) 33 (0, 0)) := by rw [e8]; exact (setCells_other _ _ _ _ _ hobrb.out).trans HS.out.op
                    have k1' : w8.cell? ⟨wr.heap.size, 1, none⟩ = some (.int .i64 (z : Int)) := by rw [← hz]; exact cell_of_row w8 _ 1 _ _ _ hop'
                    have hth2 := Own.there hns.1 lz
                    clear e8 k0 k1 k2 k4 h11 h12 hth hrz
                    go_wp2_with (first
                      | ((with_reducible refine at_dst 128 ?_); refine wpList_load_row rfl 42 _ rfl (b1) rfl 42 (numC X) (0, 0) _ h11' underNum rfl (infoNum_of _ (numC_size _)) ?_)
                      | ((with_reducible refine at_store 129 ?_); refine wpList_store_at rfl 42 _ _ rfl rb (z * 4) (numC X) rfl rfl 4 (numC_size _).symm hth2 (infoNum_of _ (numC_size _)) (numC_one _) ?_))
                    have hns2 := nums_store hns.1 (by rw [List.length_set]; exact Hl.out) lz X (Nat.le_trans HS.out.size hns.2.size)
                    go_wp2
                    go_roundw
                    case rel => exact ⟨j + 1, by omega, by go_num, Lib.hid (by rw [Hrun.out, Hst.out, if_pos hki.out, if_pos ho, ← HZ.out, ← HX.out]; exact hns2.1), Lib.hid ((HS.out.drew.bel.trans hns.2).trans hns2.2)⟩
                    case measure => simp [intOf]; omega
                  · have ho2 : ((o.n : Int) % 2) = 0 := by omega
                    go_wp2
                    go_roundw
                    case rel => exact ⟨j + 1, by omega, by go_num, Lib.hid (by rw [Hrun.out, Hst.out, if_pos hki.out, if_neg ho]; exact HS.out.own), Lib.hid HS.out.bel⟩
                    case measure => simp [intOf]; omega
                · have k0 := HS.out.k0
                  have k1 := HS.out.k1
                  rw [hz] at k1
                  obtain ⟨V, qV⟩ : ∃ u, u = valueN o X 0 := ⟨_, rfl⟩
                  have HV := Lib.hid qV
                  have eV : valueN o (r.getD x 0) (getN r o.y) = V := by rw [qV]; rw [HX.out]; exact valueN_noY o _ _ _ (by rw [huf])
                  have HeV := Lib.hid eV
                  clear qV eV
                  go_wp2_with fail
                  try simp only [Act.put]
                  refine wp_region_noPanic ?_
                  refine wp_region_held_drew (S := Keep rb w6) (by kernel_rfl) (Keep.start _ _) ?_
                  intro hS
                  obtain ⟨wd, ed⟩ : ∃ u : World, u = w6.drew := ⟨_, rfl⟩
                  rw [← ed] at hS ⊢
                  have HS0 := HS
                  replace HS : Hid (SR w.heap.size w wd wr.heap.size o (.slice (some ⟨rb, 0, none⟩) k cap2) k r) := by rw [ed]; exact Lib.hid HS0.out.drew
                  clear ed
                  refine takeAt (i := 0) (v := .slice (some ⟨rb, 0, none⟩) k cap2) rfl (some 104) rfl (by kernel_rfl) (by kernel_rfl) (by kernel_rfl) (fun _ _ _ h => h) (take_run rfl (fun _ _ => by go_simp)) hS ?_
                  simp only [Act.put, List.setIfInBounds_toArray, List.set_cons_zero, List.set_cons_succ]
                  refine takeAt (i := 1) (v := .pointer (some ⟨wr.heap.size, 1, none⟩)) rfl (some 105) rfl (by kernel_rfl) (by kernel_rfl) (by kernel_rfl) (fun _ _ _ h => h) (take_run rfl (fun _ _ => by go_simp)) hS ?_
                  simp only [Act.put, List.setIfInBounds_toArray, List.set_cons_zero, List.set_cons_succ]
                  refine takeAt (i := 2) (v := .int .i64 (z : Int)) rfl (some 106) rfl (by kernel_rfl) (by kernel_rfl) (by kernel_rfl) (fun _ _ _ h => h) (take_run rfl (fun u hK => by have cc := Keep.cell hK k1 hobrb.out; go_simp)) hS ?_
                  simp only [Act.put, List.setIfInBounds_toArray, List.set_cons_zero, List.set_cons_succ]
                  refine takeAt (i := 3) (v := .agg (opO o)) rfl (some 107) rfl (by kernel_rfl) (by kernel_rfl) (by kernel_rfl) (fun _ _ _ h => h) (take_row rfl _ _ rfl (wr.heap.size) rfl _ _ _ HS0.out.op hobrb.out underOp rfl infoOp) hS ?_
                  simp only [Act.put, List.setIfInBounds_toArray, List.set_cons_zero, List.set_cons_succ]
                  refine takeAt (i := 4) (v := .agg (numC X)) rfl (some 108) rfl (by kernel_rfl) (by kernel_rfl) (by kernel_rfl) (fun _ _ _ h => h) (take_row rfl _ _ rfl b1 rfl _ _ _ h11 (hrb.out _ (by omega)) underNum rfl (infoNum_of _ (numC_size _))) hS ?_
                  simp only [Act.put, List.setIfInBounds_toArray, List.set_cons_zero, List.set_cons_succ]
                  refine takeAt (i := 5) (v := .agg (numC 0)) rfl (some 109) rfl (by kernel_rfl) (by kernel_rfl) (by kernel_rfl) (fun _ _ _ h => h) (take_row rfl _ _ rfl (b1 + 1) rfl _ _ _ h12 (hrb.out _ (by omega)) underNum rfl (infoNum_of _ (numC_size _))) hS ?_
                  simp only [Act.put, List.setIfInBounds_toArray, List.set_cons_zero, List.set_cons_succ]
                  refine wpAnyH_ready (rs := [6]) (by kernel_rfl) (by simp) ?_
                  refine (AllReadyH.cons rfl ?_ AllReadyH.nil)
                  intro K hK
                  refine ready_call rfl (some 110) rfl 15 #[.agg (opO o), .agg (numC X), .agg (numC 0)] (by go_simp) ?_
                  refine (value_any o X 0 hno hkr.1 hkr.2 h11k (by rw [HX.out]; exact list_lt Hrp.out x) pF_pos _).mono ?_
                  rw [← HV.out]
                  rintro e w8 ⟨rfl, hC⟩
                  refine ⟨_, rfl, ?_⟩
                  simp only [Act.put, List.setIfInBounds_toArray, List.set_cons_zero, List.set_cons_succ]
                  replace HS := Lib.hid (HS.out.below hC)
                  have hS := hS.call hC
                  clear k0 k1 h11 h12 hC HS0
                  refine hK.out _ _ hS ?_
                  clear hK K
                  intro _
                  refine takeAt (i := 7) (v := .pointer (some ⟨rb, z * 4, none⟩)) rfl (some 111) rfl (by kernel_rfl) (by kernel_rfl) (by kernel_rfl) (fun _ _ _ h => h) (take_run rfl (fun _ _ => by go_simp)) hS ?_
                  simp only [Act.put, List.setIfInBounds_toArray, List.set_cons_zero, List.set_cons_succ]
                  have hth := Own.there HS.out.own lz
                  refine wpAnyH_ready (rs := [8]) (by kernel_rfl) (by simp) ?_
                  refine (AllReadyH.cons rfl ?_ AllReadyH.nil)
                  intro K hK
                  rw [if_pos (by rfl)]
                  refine wp_store_mid 42 _ _ rfl rb (z * 4) (numC V) rfl rfl (by rw [numC_size]; exact hth) (infoNum_of _ (numC_size _)) (numC_one _) ?_
                  refine put_at (none) rfl ?_
                  try simp only [Act.put, List.setIfInBounds_toArray, List.set_cons_zero, List.set_cons_succ]
                  refine hK.out _ _ (Keep.setCells hS _ _) ?_
                  clear hK K
                  intro _
                  refine wpAnyH_done (by kernel_rfl) ?_ _
                  refine NoPanic.normal ?_
                  clear hS
                  have hns := nums_store HS.out.own Hl.out lz V HS.out.size
                  go_wp2
                  go_roundw
                  case rel => exact ⟨j + 1, by omega, by go_num, Lib.hid (by rw [Hrun.out, Hst.out, if_neg h11k, HeV.out]; exact hns.1), Lib.hid (HS.out.bel.trans hns.2)⟩
                  case measure => simp [intOf]; omega
              | false =>
                go_wp2_with fail
                generalize hw2 : w2.alloc (.cells #[.int .i64 o.x] 3) = w3
                have hA : Below w2.heap.size w2 w3 := by rw [← hw2]; exact below_alloc (Below.refl _ _) _
                have hc : w3.cell? ⟨w2.heap.size, 0, none⟩ = some (.int .i64 o.x) := by rw [← hw2]; exact cell_of_row _ _ 0 _ _ _ (heap_new _ _)
                have hT := there_any k o.x w2.heap.size w3 hc
                rw [rx] at hT
                replace HS := Lib.hid (HS.out.below hA)
                clear k0 k1 k2 k3
                have k0 := HS.out.k0; have k1 := HS.out.k1; have k2 := HS.out.k2; have k3 := HS.out.k3
                clear hw2 hc hA
                refine hT.mono ?_
                rintro e w9 ⟨rfl, hw⟩
                rw [hw]
                clear hw w9 hT
                have hm : madeN o r.length = false := by rw [Hl.out]; simp [madeN, huf, rz, rx]
                have hst := Lib.hid (stepN_no hm)
                clear hm
                go_wp2
                go_roundw
                case rel => exact ⟨j + 1, by omega, by go_num, by rw [Hrun.out, hst.out]; exact Lib.hid HS.out.own, Lib.hid HS.out.bel⟩
                case measure => simp [intOf]; omega
            | false =>
              go_wp2_with fail
              generalize hw2 : w1.alloc (.cells #[.int .i64 o.z] 3) = w2
              have hA : Below w1.heap.size w1 w2 := by rw [← hw2]; exact below_alloc (Below.refl _ _) _
              have hc : w2.cell? ⟨w1.heap.size, 0, none⟩ = some (.int .i64 o.z) := by rw [← hw2]; exact cell_of_row _ _ 0 _ _ _ (heap_new _ _)
              have hT := there_any k o.z w1.heap.size w2 hc
              rw [rz] at hT
              replace HS := Lib.hid (HS.out.below hA)
              clear k0 k1 k2 k3
              have k0 := HS.out.k0; have k1 := HS.out.k1; have k2 := HS.out.k2; have k3 := HS.out.k3
              clear hw2 hc hA
              refine hT.mono ?_
              rintro e w9 ⟨rfl, hw⟩
              rw [hw]
              clear hw w9 hT
              have hm : madeN o r.length = false := by rw [Hl.out]; simp [madeN, huf, rz]
              have hst := Lib.hid (stepN_no hm)
              clear hm
              go_wp2
              go_roundw
              case rel => exact ⟨j + 1, by omega, by go_num, by rw [Hrun.out, hst.out]; exact Lib.hid HS.out.own, Lib.hid HS.out.bel⟩
              case measure => simp [intOf]; omega
          · rw [huf] at hu
            simp only at hu
            have hkr := kind_range (k := o.kind) (by rw [huf])
            have hk0 := hkr.1; have hk15 := hkr.2
            have k1 := HS.out.k1; have k2 := HS.out.k2; have k3 := HS.out.k3
            go_wp2_with fail
            refine hu.mono ?_
            rintro e w2 ⟨rfl, hw⟩
            rw [hw]
            clear hw w2 hu
            cases rz : regN o.z k with
            | true =>
              go_wp2_with fail
              generalize hw2 : w1.alloc (.cells #[.int .i64 o.z] 3) = w2
              have hA : Below w1.heap.size w1 w2 := by rw [← hw2]; exact below_alloc (Below.refl _ _) _
              have hc : w2.cell? ⟨w1.heap.size, 0, none⟩ = some (.int .i64 o.z) := by rw [← hw2]; exact cell_of_row _ _ 0 _ _ _ (heap_new _ _)
              have hT := there_any k o.z w1.heap.size w2 hc
              rw [rz] at hT
              replace HS := Lib.hid (HS.out.below hA)
              clear k0 k1 k2 k3
              have k0 := HS.out.k0; have k1 := HS.out.k1; have k2 := HS.out.k2; have k3 := HS.out.k3
              clear hw2 hc hA
              refine hT.mono ?_
              rintro e w9 ⟨rfl, hw⟩
              rw [hw]
              clear hw w9 hT
              have hm : madeN o r.length = true := by rw [Hl.out]; simp [madeN, huf, rz]
              have hpos : 0 < k := by have := made_pos hm; rw [Hl.out] at this; exact this
              obtain ⟨rb, rfl, _, _⟩ := Hf.out hpos
              have hrb0 : rb < wr.heap.size := HS.out.rbl rb rfl
              have hob0 : wr.heap.size < w2.heap.size := heap_lt HS.out.op
              have hst : stepN o r = if o.kind = 11 then (if o.n % 2 = 1 then (r.set o.x.toNat (getN r o.z)).set o.z.toNat (getN r o.x) else r) else r.set o.z.toNat (valueN o (getN r o.x) (getN r o.y)) := by unfold stepN; rw [if_pos hm]
              have hkr := kind_range (k := o.kind) (by rw [huf])
              obtain ⟨z, hz, lz⟩ := regN_true rz
              have tz : o.z.toNat = z := by rw [hz]; exact Int.toNat_natCast z
              have gz : getN r o.z = r.getD z 0 := by unfold getN; rw [tz]
              rw [tz, gz] at hst
              have Hst := Lib.hid hst; clear hst hm hpos tz gz
              go_upto_region 13 with (first
                | ((with_reducible refine at_store 11 ?_); refine wpList_store_row rfl 42 _ _ rfl (w2.heap.size) (z4) rfl rfl 42 (z4) (heap_old _ (heap_new_at _ _ _ rfl)) (infoNum_of (z4) z4_size) (z4_size.trans z4_size.symm) z4_one ?_)
                | ((with_reducible refine at_store 12 ?_); refine wpList_store_row rfl 42 _ _ rfl (w2.heap.size + 1) (z4) rfl rfl 42 (z4) (heap_row _ (by omega) (heap_new_at _ _ _ (by simp only [alloc_size]))) (infoNum_of (z4) z4_size) (z4_size.trans z4_size.symm) z4_one ?_))
              refine wp_named ?_
              intro w5 e5
              have h11 : w5.heap[w2.heap.size]? = some (.cells (numC 0) 42 (0, 0)) := by rw [e5, ← numC_zero]; exact heap_row _ (by omega) (setRow_heap _ _ _ _ _ _ (heap_old _ (heap_new_at _ _ _ rfl)))
              have h12 : w5.heap[w2.heap.size + 1]? = some (.cells (numC 0) 42 (0, 0)) := by rw [e5, ← numC_zero]; exact setRow_heap _ _ _ _ _ _ (heap_row _ (by omega) (heap_new_at _ _ _ (by simp only [alloc_size])))
              have hA : Below w2.heap.size w2 w5 := by rw [e5]; exact below_setRow (below_setRow (below_alloc (below_alloc (Below.refl _ _) _) _) (by omega) _) (by omega) _
              replace HS := Lib.hid (HS.out.below hA)
              clear e5
              obtain ⟨b1, hb1⟩ : ∃ b, b = w2.heap.size := ⟨_, rfl⟩
              have hbs : w2.heap.size ≤ w5.heap.size := hA.size
              have hsW := HS.out.obB
              have hob1 : wr.heap.size < b1 := by rw [hb1]; exact hob0
              rw [← hb1] at h11 h12 ⊢
              clear hA k0 k1 k2 k3
              have hrb : Hid (∀ c, b1 ≤ c → c ≠ rb) := Lib.hid (fun c hc e => by omega)
              have hobrb : Hid (wr.heap.size ≠ rb) := Lib.hid (by omega)
              clear hrb0 hob0 hb1 hbs
              have h11k : ¬ o.kind = 11 := by intro h; rw [h] at huf; exact absurd huf (by decide)
              have k0 := HS.out.k0
              have k1 := HS.out.k1
              rw [hz] at k1
              obtain ⟨V, qV⟩ : ∃ u, u = valueN o 0 0 := ⟨_, rfl⟩
              have HV := Lib.hid qV
              have eV : valueN o (getN r o.x) (getN r o.y) = V := by rw [qV]; exact valueN_noX o _ _ _ _ (by rw [huf]) (by rw [huf])
              have HeV := Lib.hid eV
              clear qV eV
              go_wp2_with fail
              try simp only [Act.put]
              refine wp_region_noPanic ?_
              refine wp_region_held_drew (S := Keep rb w5) (by kernel_rfl) (Keep.start _ _) ?_
              intro hS
              obtain ⟨wd, ed⟩ : ∃ u : World, u = w5.drew := ⟨_, rfl⟩
              rw [← ed] at hS ⊢
              have HS0 := HS
              replace HS : Hid (SR w.heap.size w wd wr.heap.size o (.slice (some ⟨rb, 0, none⟩) k cap2) k r) := by rw [ed]; exact Lib.hid HS0.out.drew
              clear ed
              refine takeAt (i := 0) (v := .slice (some ⟨rb, 0, none⟩) k cap2) rfl (some 104) rfl (by kernel_rfl) (by kernel_rfl) (by kernel_rfl) (fun _ _ _ h => h) (take_run rfl (fun _ _ => by go_simp)) hS ?_
              simp only [Act.put, List.setIfInBounds_toArray, List.set_cons_zero, List.set_cons_succ]
              refine takeAt (i := 1) (v := .pointer (some ⟨wr.heap.size, 1, none⟩)) rfl (some 105) rfl (by kernel_rfl) (by kernel_rfl) (by kernel_rfl) (fun _ _ _ h => h) (take_run rfl (fun _ _ => by go_simp)) hS ?_
              simp only [Act.put, List.setIfInBounds_toArray, List.set_cons_zero, List.set_cons_succ]
              refine takeAt (i := 2) (v := .int .i64 (z : Int)) rfl (some 106) rfl (by kernel_rfl) (by kernel_rfl) (by kernel_rfl) (fun _ _ _ h => h) (take_run rfl (fun u hK => by have cc := Keep.cell hK k1 hobrb.out; go_simp)) hS ?_
              simp only [Act.put, List.setIfInBounds_toArray, List.set_cons_zero, List.set_cons_succ]
              refine takeAt (i := 3) (v := .agg (opO o)) rfl (some 107) rfl (by kernel_rfl) (by kernel_rfl) (by kernel_rfl) (fun _ _ _ h => h) (take_row rfl _ _ rfl (wr.heap.size) rfl _ _ _ HS0.out.op hobrb.out underOp rfl infoOp) hS ?_
              simp only [Act.put, List.setIfInBounds_toArray, List.set_cons_zero, List.set_cons_succ]
              refine takeAt (i := 4) (v := .agg (numC 0)) rfl (some 108) rfl (by kernel_rfl) (by kernel_rfl) (by kernel_rfl) (fun _ _ _ h => h) (take_row rfl _ _ rfl b1 rfl _ _ _ h11 (hrb.out _ (by omega)) underNum rfl (infoNum_of _ (numC_size _))) hS ?_
              simp only [Act.put, List.setIfInBounds_toArray, List.set_cons_zero, List.set_cons_succ]
              refine takeAt (i := 5) (v := .agg (numC 0)) rfl (some 109) rfl (by kernel_rfl) (by kernel_rfl) (by kernel_rfl) (fun _ _ _ h => h) (take_row rfl _ _ rfl (b1 + 1) rfl _ _ _ h12 (hrb.out _ (by omega)) underNum rfl (infoNum_of _ (numC_size _))) hS ?_
              simp only [Act.put, List.setIfInBounds_toArray, List.set_cons_zero, List.set_cons_succ]
              refine wpAnyH_ready (rs := [6]) (by kernel_rfl) (by simp) ?_
              refine (AllReadyH.cons rfl ?_ AllReadyH.nil)
              intro K hK
              refine ready_call rfl (some 110) rfl 15 #[.agg (opO o), .agg (numC 0), .agg (numC 0)] (by go_simp) ?_
              refine (value_any o 0 0 hno hkr.1 hkr.2 h11k pF_pos pF_pos _).mono ?_
              rw [← HV.out]
              rintro e w8 ⟨rfl, hC⟩
              refine ⟨_, rfl, ?_⟩
              simp only [Act.put, List.setIfInBounds_toArray, List.set_cons_zero, List.set_cons_succ]
              replace HS := Lib.hid (HS.out.below hC)
              have hS := hS.call hC
              clear k0 k1 h11 h12 hC HS0
              refine hK.out _ _ hS ?_
              clear hK K
              intro _
              refine takeAt (i := 7) (v := .pointer (some ⟨rb, z * 4, none⟩)) rfl (some 111) rfl (by kernel_rfl) (by kernel_rfl) (by kernel_rfl) (fun _ _ _ h => h) (take_run rfl (fun _ _ => by go_simp)) hS ?_
              simp only [Act.put, List.setIfInBounds_toArray, List.set_cons_zero, List.set_cons_succ]
              have hth := Own.there HS.out.own lz
              refine wpAnyH_ready (rs := [8]) (by kernel_rfl) (by simp) ?_
              refine (AllReadyH.cons rfl ?_ AllReadyH.nil)
              intro K hK
              rw [if_pos (by rfl)]
              refine wp_store_mid 42 _ _ rfl rb (z * 4) (numC V) rfl rfl (by rw [numC_size]; exact hth) (infoNum_of _ (numC_size _)) (numC_one _) ?_
              refine put_at (none) rfl ?_
              try simp only [Act.put, List.setIfInBounds_toArray, List.set_cons_zero, List.set_cons_succ]
              refine hK.out _ _ (Keep.setCells hS _ _) ?_
              clear hK K
              intro _
              refine wpAnyH_done (by kernel_rfl) ?_ _
              refine NoPanic.normal ?_
              clear hS
              have hns := nums_store HS.out.own Hl.out lz V HS.out.size
              go_wp2
              go_roundw
              case rel => exact ⟨j + 1, by omega, by go_num, Lib.hid (by rw [Hrun.out, Hst.out, if_neg h11k, HeV.out]; exact hns.1), Lib.hid (HS.out.bel.trans hns.2)⟩
              case measure => simp [intOf]; omega
            | false =>
              go_wp2_with fail
              generalize hw2 : w1.alloc (.cells #[.int .i64 o.z] 3) = w2
              have hA : Below w1.heap.size w1 w2 := by rw [← hw2]; exact below_alloc (Below.refl _ _) _
              have hc : w2.cell? ⟨w1.heap.size, 0, none⟩ = some (.int .i64 o.z) := by rw [← hw2]; exact cell_of_row _ _ 0 _ _ _ (heap_new _ _)
              have hT := there_any k o.z w1.heap.size w2 hc
              rw [rz] at hT
              replace HS := Lib.hid (HS.out.below hA)
              clear k0 k1 k2 k3
              have k0 := HS.out.k0; have k1 := HS.out.k1; have k2 := HS.out.k2; have k3 := HS.out.k3
              clear hw2 hc hA
              refine hT.mono ?_
              rintro e w9 ⟨rfl, hw⟩
              rw [hw]
              clear hw w9 hT
              have hm : madeN o r.length = false := by rw [Hl.out]; simp [madeN, huf, rz]
              have hst := Lib.hid (stepN_no hm)
              clear hm
              go_wp2
              go_roundw
              case rel => exact ⟨j + 1, by omega, by go_num, by rw [Hrun.out, hst.out]; exact Lib.hid HS.out.own, Lib.hid HS.out.bel⟩
              case measure => simp [intOf]; omega
        · obtain rfl : j = os.length := by omega
          rw [runN_all] at qr
          have Hl := Lib.hid hl
          clear hl hrp
          obtain ⟨w3, q3⟩ : ∃ u : World, u = wr := ⟨_, rfl⟩
          rw [← q3] at HP HB hs0 ⊢
          clear q3
          go_wp2
          go_loopw [13, 14] (fun v i wr => ∃ j : Nat, j ≤ k ∧ i = .int .i64 (j : Int) ∧ Hid (Own wr w3.heap.size 27 32 v j (fun i => (arrC (r.getD i 0)).toList)) ∧ Hid (Below w3.heap.size w3 wr)) (fun _ i _ => k - (intOf i).toNat)
          case atStart => exact ⟨0, Nat.zero_le _, rfl, Lib.hid (Own.made _ _ _ _ _ (Nat.le_refl _)), Lib.hid (below_alloc (Below.refl _ _) _)⟩
          case round =>
            obtain ⟨j, hj2, rfl, HO3, HB3⟩ := hrel
            have hs3 : w3.heap.size ≤ wr.heap.size := HB3.out.size
            by_cases hlt3 : j < k
            · obtain ⟨rb, rfl, _, _⟩ := Hf.out (by omega)
              have hr3 := Own.range (Own.below HP.out HB3.out) hlt3
              obtain ⟨X, qX⟩ : ∃ X, X = r.getD j 0 := ⟨_, rfl⟩
              change wr.rangeAt rb (j * 4) (numC (r.getD j 0)).toList at hr3
              rw [← qX] at hr3
              have HX := Lib.hid qX
              clear qX
              go_wp2_with ((with_reducible refine at_dst 141 ?_); refine wpList_load_at rfl 42 _ rfl (some 141) rfl rb (j * 4) rfl (numC X) hr3 underNum rfl (infoNum_of _ (numC_size _)) ?_)
              refine (octets_any X _).mono ?_
              rintro e w4 ⟨rfl, hC⟩
              have hs4 : wr.heap.size ≤ w4.heap.size := hC.size
              have HO4 := Lib.hid (Own.below HO3.out hC)
              have HB4 := Lib.hid (below_step HB3.out (Nat.le_refl _) hC)
              have hvb := Lib.hid (Own.lt HO4.out)
              clear hC hr3
              go_wp2_with (first
                | ((with_reducible refine at_dst 143 ?_); refine wpList_build_one rfl 22 27 _ rfl w4.heap.size rfl (some 143) rfl underAs (arrC X) rfl (builtA X) ?_)
                | (at_builtin; refine wpList_append_one rfl _ _ 22 rfl (some 144) rfl w3.heap.size 27 (.agg zL) 32 32 underAs infoA rfl (by decide) _ j (fun i => (arrC (r.getD i 0)).toList) rfl (Own.alloc HO4.out _) w4.heap.size 1 (arrC X).toList rfl ?l1 ?l2 ?c1 ?c2 ?c3 ?c4 ?_))
              case l1 => rw [Array.length_toList, arrC_size]
              case l2 => exact new_range _ _ _
              case c1 => exact fun u hu => (Array.all_eq_true_iff_forall_mem.1 (arrC_one X)) u (by simpa using hu)
              case c2 => unfold maxLen; omega
              case c3 => omega
              case c4 => rw [alloc_size]; omega
              intro v' w5 hown hgrow
              have HO5 : Hid (Own w5 w3.heap.size 27 32 v' (j + 1) (fun i => (arrC (r.getD i 0)).toList)) := Lib.hid (Own.congr hown fun i hi => by
                by_cases h : i < j
                · simp only [if_pos h]
                · simp only [if_neg h]; rw [HX.out, show i = j by omega])
              have HB5 : Hid (Below w3.heap.size w3 w5) := Lib.hid ((HB4.out.alloc (by omega) _).trans (grown_below hgrow (fun c hc => (hvb.out c hc).1) (by rw [alloc_size]; omega)))
              clear hown hgrow
              go_wp2
              go_roundw
              case rel => exact ⟨j + 1, by omega, by go_num, HO5, HB5⟩
              case measure => simp [intOf]; omega
            · obtain rfl : j = k := by omega
              go_wp2
              go_ret
              exact ⟨_, rfl, HB.out.trans (HB3.out.mono hs0), by rw [← qr]; exact Own.base HO3.out hs0⟩
end Go.Proofs.YtemgflkecflhmaaDoor
