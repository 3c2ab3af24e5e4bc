/- laws.alike of the same rows; the walk of FnExactFieldRun. -/
import Derived.Test.YtemgflkecflhmaaDoorKHRG
set_option maxRecDepth 4000
set_option linter.unusedSimpArgs false
set_option linter.unusedVariables false
namespace Go.Proofs.YtemgflkecflhmaaDoor
open Go.RowKit
set_option maxHeartbeats 1000000 in
theorem alike_any (B C n ca cb : Nat) (sa sb : Option Addr) (r : List Nat) (hl : Hid (r.length = n)) (hr : Hid (∀ x ∈ r, x < pF)) (w : World) (hm : n ≤ 9223372036854775807)
    (ha : Hid (Own w B 27 32 (.slice sa n ca) n (fun i => (arrC (r.getD i 0)).toList))) (hb : Hid (Own w C 27 32 (.slice sb n cb) n (fun i => (arrC (r.getD i 0)).toList))) :
    Calls Tryd.prog 4 #[.slice sa n ca, .slice sb n cb] w fun e w' => e = .returned (.bool true) ∧ Below w.heap.size w w' := by
  go_enter Tryd.func4, Tryd.ntmps4
  go_wp2
  go_loopw [5] (fun i wr => ∃ k : Nat, k ≤ n ∧ i = .int .i64 (k : Int) ∧ Hid (Own wr B 27 32 (.slice sa n ca) n (fun i => (arrC (r.getD i 0)).toList)) ∧ Hid (Own wr C 27 32 (.slice sb n cb) n (fun i => (arrC (r.getD i 0)).toList)) ∧ Hid (Below w.heap.size w wr)) (fun i _ => n - (intOf i).toNat)
  case atStart => exact ⟨0, Nat.zero_le _, rfl, ha, hb, Lib.hid (Below.refl _ w)⟩
  case round =>
    clear ha hb
    obtain ⟨k, hk, rfl, ha, hb, HB⟩ := hrel
    by_cases hlt : k < n
    · obtain ⟨s1, c1, e1, f1⟩ := Own.form ha.out
      obtain ⟨s2, c2, e2, f2⟩ := Own.form hb.out
      obtain ⟨ga, rfl, _, _⟩ := f1 (by omega)
      obtain ⟨gb, rfl, _, _⟩ := f2 (by omega)
      simp only [Value.slice.injEq, true_and] at e1 e2
      obtain ⟨rfl, rfl⟩ := e1
      obtain ⟨rfl, rfl⟩ := e2
      have ra := Own.range ha.out hlt
      have rb := Own.range hb.out hlt
      have lx : r.getD k 0 < 256 ^ 32 := Nat.lt_trans (list_lt hr.out k) (by unfold pF; omega)
      change wr.rangeAt ga (k * 32) (arrC (r.getD k 0)).toList at ra
      change wr.rangeAt gb (k * 32) (arrC (r.getD k 0)).toList at rb
      clear f1 f2
      generalize r.getD k 0 = X at ra rb lx
      go_wp2
      refine wp_region_still_lit (by kernel_rfl) (by kernel_rfl) ?_
      repeat still_step
      refine still_load_at (w := wr.drew) rfl 27 _ rfl (some 20) rfl ga (k * 32) rfl (arrC X) ra under32 rfl (info32_of _ (arrC_size _)) ?_
      simp only [Act.put, List.setIfInBounds_toArray, List.set_cons_zero, List.set_cons_succ]
      repeat still_step
      refine still_load_at (w := wr.drew) rfl 27 _ rfl (some 24) rfl gb (k * 32) rfl (arrC X) rb under32 rfl (info32_of _ (arrC_size _)) ?_
      simp only [Act.put, List.setIfInBounds_toArray, List.set_cons_zero, List.set_cons_succ]
      refine wpStill_step (fun K hK => ?_)
      go_simp
      rw [run_eq_arr _ _ lx lx]
      simp
      refine hK _ ?_
      clear hK K
      refine wpStill_nil ?_
      go_wp2
      go_roundw
      case rel => exact ⟨k + 1, by omega, by go_num, ha, hb, Lib.hid HB.out.drew⟩
      case measure => simp [intOf]; omega
    · obtain rfl : k = n := by omega
      go_wp2
      go_ret
      exact ⟨rfl, HB.out⟩
set_option maxHeartbeats 1000000 in
theorem fr_walk (sl so : Option Addr) (n cap cp : Nat) (S : Nat → Nat) (os : List FOp) (w : World) (hn : n * 32 ≤ 140737488351232) (hm : os.length ≤ 9223372036854775807)
    (hS : Hid (RowsAt w sl n 32 (fun i => arrC (S i)))) (hO : Hid (RowsAt w so os.length 5 (fun i => opO (os.getD i default)))) (hN : Hid (∀ i, i < os.length → (os.getD i default).n < 4294967296))
    (B0 : Nat) (hB0 : B0 ≤ w.heap.size) (hD0 : Hid (Var 0 z5 B0 w)) (hD1 : Hid (Var 1 i5 B0 w)) (hDo : Hid (Var 2 o5 B0 w)) :
    Calls Tryd.prog 3 #[.slice sl n cap, .slice so os.length cp] w fun e w' => e = .returned (.bool true) ∧ Below w.heap.size w w' := by
  go_enter Tryd.func3, Tryd.ntmps3
  go_wp2_with fail
  refine (irun sl so n cap cp S os w hn hm hS hO hN B0 hB0 hD0 hD1 hDo).mono ?_
  rintro e w1 ⟨va, rfl, hB1, hO1⟩
  have HB1 := Lib.hid hB1
  have HO1 := Lib.hid hO1
  clear hB1 hO1
  go_wp2_with fail
  refine (srun sl so n cap cp S os w1 hn hm (Lib.hid (hS.out.below HB1.out)) (Lib.hid (hO.out.below HB1.out)) hN).mono ?_
  rintro e w2 ⟨vb, rfl, hB2, hO2⟩
  have hl : Hid ((runN (regs0 S n) os).length = n) := Lib.hid (by rw [runN_length, regs0_length])
  have hr : Hid (∀ x ∈ runN (regs0 S n) os, x < pF) := Lib.hid (runN_lt _ fun x hx => by
    unfold regs0 at hx
    obtain ⟨i, _, rfl⟩ := List.mem_map.1 hx
    exact valN_lt' _)
  have HB2 := Lib.hid (below_step HB1.out (Nat.le_refl _) hB2)
  have HO3 := Lib.hid (Own.below HO1.out hB2)
  have HO2 := Lib.hid hO2
  obtain ⟨s1, c1, rfl, _⟩ := Own.form HO3.out
  obtain ⟨s2, c2, rfl, _⟩ := Own.form HO2.out
  clear hB2 hO2
  generalize runN (regs0 S n) os = r at *
  go_wp2_with fail
  refine (alike_any _ _ n c1 c2 s1 s2 r hl hr _ (by omega) HO3 HO2).mono ?_
  rintro e w3 ⟨rfl, hB3⟩
  go_wp2
  go_ret
  exact ⟨rfl, below_step HB2.out (Nat.le_refl _) hB3⟩
end Go.Proofs.YtemgflkecflhmaaDoor
