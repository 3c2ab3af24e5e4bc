/- The package's variables: feZero, feOne, sqrtM1 point to elements; what holds of them stays where only new memory is written. -/
import Derived.Test.YtmabidcocdflkaaDoorP0
import Derived.Test.YtmabidcocdflkaaDoorK0
import Derived.Deep.Fields
import Derived.LaidMore
import Derived.Stop.Joined
import Derived.WideKeyArgs
set_option linter.unusedSimpArgs false
set_option linter.unusedVariables false
namespace Go.Proofs.YtmabidcocdflkaaDoor
open Go.ChangeShapes Go.WideShapes Go.ChangeAt Go.RowKit Go.Deep

/-- variable g points to the five limbs L; both lie below block B -/
def Var (g : Nat) (L : L5) (B : Nat) (w : World) : Prop := B ≤ w.heap.size ∧ g < B ∧ ∃ b o, w.cell? ⟨g, 0, none⟩ = some (.pointer (some ⟨b, o, none⟩)) ∧ b < B ∧ El w b o L
theorem Var.below {g B : Nat} {L : L5} {w w' : World} (h : Var g L B w) (hB : Below B w w') : Var g L B w' := by
  obtain ⟨hs, hg, b, o, hc, hb, hE⟩ := h
  exact ⟨Nat.le_trans hs hB.size, hg, b, o, (hB.cell (p := ⟨g, 0, none⟩) hg).trans hc, hb, Row.below hE hB hb⟩
theorem Var.later {g B : Nat} {L : L5} {w w' : World} (h : Var g L B w) (hB : Below w.heap.size w w') : Var g L B w' := h.below (hB.mono h.1)

theorem five_fields (fs : Array Field) (h : (fs.map (·.type)) = #[34, 34, 34, 34, 34]) : fs.size = 5 ∧ ∀ i, i < 5 → ∃ f, fs[i]? = some f ∧ f.type = 34 := by
  have hs : fs.size = 5 := by have := congrArg Array.size h; simpa using this
  refine ⟨hs, fun i hi => ?_⟩
  have := congrArg (fun a => a[i]?) h
  simp only [Array.getElem?_map] at this
  rw [Array.getElem?_eq_getElem (by omega)] at this ⊢
  refine ⟨_, rfl, ?_⟩
  have h5 : i = 0 ∨ i = 1 ∨ i = 2 ∨ i = 3 ∨ i = 4 := by omega
  rcases h5 with rfl | rfl | rfl | rfl | rfl <;> simpa using this

def isFive (P : Program) (t u : TypeId) : Bool := match P.underlying t with | some (.struct fs) => (fs.map (·.type) == #[u, u, u, u, u]) && oneCellFields P fs | _ => false
theorem isFive_of {P : Program} {t u : TypeId} (h : isFive P t u = true) : ∃ fs, P.underlying t = some (.struct fs) ∧ fs.map (·.type) = #[u, u, u, u, u] ∧ oneCellFields P fs = true := by
  unfold isFive at h
  split at h
  · rename_i fs hfs
    simp only [Bool.and_eq_true, beq_iff_eq] at h
    exact ⟨fs, hfs, h.1, h.2⟩
  · cases h
theorem fiveE : isFive Tryd.prog 36 34 = true := by kernel_rfl
theorem cellsE : Tryd.prog.cellsOf 36 = 5 := by kernel_rfl
theorem underP : Tryd.prog.underlying 32 = some (.pointer 36) := by kernel_rfl
theorem under64 : Tryd.prog.underlying 34 = some (.int .u64) := by kernel_rfl

theorem var_of {H : Type} {enc : TypeId × Value → H} {W : World} {sp : Nat → Bool} {held : Bool} {fuel : Nat} {cs : List Value} {p : List MemPlace} (a0 a1 a2 a3 a4 : Nat)
    (h : DataW.trod enc Tryd.prog W 0 sp held fuel 32 cs = some (.ptr (.agg [.lit (.int .u64 (a0 : Int)), .lit (.int .u64 (a1 : Int)), .lit (.int .u64 (a2 : Int)), .lit (.int .u64 (a3 : Int)), .lit (.int .u64 (a4 : Int))]), p))
    (hf : ∀ b off, MemPlace.cell b off ∈ p → ∃ c t, W.heap[b]? = some (.cells c t (0, 0))) :
    ∃ b o, cs = [.pointer (some ⟨b, o, none⟩)] ∧ El W b o ⟨a0, a1, a2, a3, a4⟩ := by
  obtain ⟨fs, hu, ht, hone⟩ := isFive_of fiveE
  obtain ⟨hs, hty⟩ := five_fields fs ht
  rcases open_ptr_fields underP hu (hone_of hone) (by rw [hs]; exact cellsE) (by omega) h with ⟨_, hx⟩ | ⟨b, o, n, V, Y, rfl, _, hx, hv⟩
  · cases hx
  refine ⟨b, o, rfl, ?_⟩
  rw [hs] at hx
  injection hx with hx1 hx2
  injection hx1 with hx1
  injection hx1 with hx1
  have each : ∀ i, i < 5 → W.cell? ⟨b, o + i, none⟩ = some (limbV ⟨a0, a1, a2, a3, a4⟩ i) := by
    intro i hi
    obtain ⟨f, hf1, hf2⟩ := hty i hi
    obtain ⟨hc, htr⟩ := hv i f hf1
    rw [hf2] at htr
    obtain ⟨m, e1, e2, _⟩ := DataW.trod_int under64 (x := Y i) htr
    have e3 := congrArg (fun l => l[i]?) hx1
    simp only [List.getElem?_map, List.getElem?_range hi, Option.map_some] at e3
    rw [e2] at e3
    injection e1 with e1
    rw [hc, e1]
    have h5 : i = 0 ∨ i = 1 ∨ i = 2 ∨ i = 3 ∨ i = 4 := by omega
    rcases h5 with rfl | rfl | rfl | rfl | rfl <;> (simp at e3; subst e3; rfl)
  obtain ⟨c, t, hb⟩ := hf b o (by rw [hx2]; refine List.mem_append_left _ ?_; first | (simp [MemPlace.row]; done) | (simp [MemPlace.row]; exact ⟨0, by omega, by omega⟩) | (simp [MemPlace.row, List.range, List.range.loop]; done) | (simp [MemPlace.row, List.range, List.range.loop, Addr.add]; done))
  refine ⟨c, t, (0, 0), hb, fun i hi => ⟨?_, by simp⟩⟩
  have := each i hi
  simpa [World.cell?, hb] using this

/-- what is read of the variables stays read -/
theorem vars_stay {H : Type} {enc : TypeId × Value → H} {W W' : World} (hB : Below W.heap.size W W') : ∀ {ns : List String} {gs : List (DataW H)} {q : List MemPlace},
    (∀ n ∈ ns, ∀ g t, Tryd.prog.globalNamed n = some g → (Tryd.prog.globals[g]?).map (·.type) = some t → Tryd.prog.readableRec t = true ∧ t < Tryd.prog.types.size) →
    DataW.TrodVars enc Tryd.prog W (fun _ => true) ns gs q → DataW.TrodVars enc Tryd.prog W' (fun b => decide (b < W.heap.size)) ns gs q
  | [], [], _, _, h => h
  | [], _ :: _, _, _, h => h
  | _ :: _, [], _, _, h => h
  | n :: ns, d :: ds, ps, hT, h => by
    obtain ⟨g, t, cs, fuel, p, q, hg, ht, hv, hd, hr, rfl⟩ := h
    obtain ⟨h1, h2⟩ := hT n (by simp) g t hg ht
    have hlt : ∀ x ∈ p, x.block < W.heap.size := DataW.trod_lt _ _ _ _ hd
    have hgl : g < W.heap.size := by
      unfold World.var? at hv
      rw [hg] at hv
      rcases Nat.lt_or_ge g W.heap.size with h | h
      · exact h
      · simp [Array.getElem?_eq_none h] at hv
    have hv' : W'.var? Tryd.prog n = some cs := by
      unfold World.var? at hv ⊢
      rw [hg] at hv ⊢
      simp only [Option.bind_some] at hv ⊢
      rw [hB.block g hgl]; exact hv
    obtain ⟨m, hm⟩ := WideElems.Trod_stays (v := .agg cs) (W' := W') (sp' := fun b => decide (b < W.heap.size)) Tryd.laidOut h1 h2 ⟨fuel, hd⟩ (fun x hx => by
      cases x with
      | cell b off => exact hB.cell (p := ⟨b, off, none⟩) (hlt _ hx)
      | map b => exact hB.block b (hlt _ hx)) (fun x hx => by simpa using hlt x hx)
    exact ⟨g, t, cs, m, p, q, hg, ht, hv', hm, vars_stay hB (fun n' hn' => hT n' (by simp [hn'])) hr, rfl⟩
end Go.Proofs.YtmabidcocdflkaaDoor
