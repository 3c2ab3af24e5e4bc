/- Columns of 128-bit words: words on cells. -/
import Derived.Test.YtmabidcocdflkaaDoorU1
import Derived.Deep.DeepCutAuto
set_option linter.unusedSimpArgs false
set_option linter.unusedVariables false
namespace Go.Proofs.YtmabidcocdflkaaDoor
open Go.RowKit


/-- a cell of a block that is known whole -/
theorem blk_cell {w : World} {b : Nat} {cs : Array Value} {t : TypeId} {fr : Nat × Nat} (h : w.heap[b]? = some (.cells cs t fr)) (i : Nat) {v : Value} (hv : cs[i]? = some v) : w.cell? ⟨b, i, none⟩ = some v := by
  simp [World.cell?, h, hv]
theorem uC_0 (V : Nat) : (uC V)[0]? = some (.int .u64 ((V % 18446744073709551616 : Nat) : Int)) := rfl
theorem low51 (V l m : Nat) (hl : Hid (l = V % 18446744073709551616)) (hm : Hid (m = V % 2251799813685248)) : bits .and .u64 (l : Int) 2251799813685247 = (m : Int) := by
  have h1 := hl.out; have h2 := hm.out
  rw [mask51 l (by omega), show l % 2251799813685248 = m by omega]
theorem qcell {P : Program} {w0 w : World} {o : Oper} {a : Act} {v : Value} (ty : TypeId) (x : Operand) (ho : o.op = .load ty x) (b off : Nat) (hx : a.eval x = .pointer (some ⟨b, off, none⟩))
    (hc : w0.cell? ⟨b, off, none⟩ = some v) (hlt : b < w0.heap.size) (hB : Below w0.heap.size w0 w) (hrun : ∀ u : World, u.cell? ⟨b, off, none⟩ = some v → (execOp a.eval o).run P u = .ok (.value v) u) {C : World → Prop} : o.quietAt P a C w v := by
  unfold Oper.quietAt
  rw [hrun w ((hB.cell (p := ⟨b, off, none⟩) hlt).trans hc)]
  exact ⟨rfl, rfl⟩
theorem mul19_q (a : Int) (w : World) (h0 : 0 ≤ a) (h : a < 970881267037344822) : Calls Tryd.prog 39 #[.int .u64 a] w fun e w'' => e = .returned (.int .u64 (19 * a)) ∧ Below w.heap.size w w'' :=
  (mul19_any a w h0 h).mono fun e w'' ⟨h1, h2⟩ => ⟨h1, by rw [h2]; exact Below.refl _ _⟩

end Go.Proofs.YtmabidcocdflkaaDoor
