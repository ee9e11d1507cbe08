/-
  HOW A SLICE OF SLICES AMONG THE ARGUMENTS IS OPENED.
-/
import Derived.Test.YouanwFrame
import Derived.Test.YouanwGrid
namespace Go.Proofs.Youanw
open Go.ChangeShapes Go.WideShapes Go.RowKit

section
variable {H : Type} {enc : TypeId × Value → H} {P : Program} {w : World} {base : Nat} {spare : Nat → Bool} {held : Bool}

theorem el_row {α : Type} (f : α → Value) (good : α → Prop) {t e : TypeId} (ht : P.underlying t = some (.slice e)) (hc : P.cellsOf e = 1)
    (hel : ∀ fuel cs y, DataW.trod enc P w base spare held fuel e cs = some y → ∃ u, cs = [f u] ∧ good u)
    (fuel : Nat) (cs : List Value) (y : DataW H × List MemPlace) (h : DataW.trod enc P w base spare held fuel t cs = some y) :
    ∃ u : Row α, cs = [u.val] ∧ (u.Ok f w ∧ ∀ s ∈ u.l, good s) := by
  obtain ⟨a, len, cap, rfl⟩ : ∃ a len cap, cs = [.slice a len cap] := by
    rcases DataW.trod_slice ht h with ⟨h0, _⟩ | ⟨x0, len0, cap0, _, _, _, _, hcs, _⟩
    · exact ⟨none, 0, 0, h0⟩
    · exact ⟨some x0, len0, cap0, hcs⟩
  obtain ⟨ha, _, _, l, hl, hs, hg⟩ := open_src f good ht hc hel h
  subst hl
  exact ⟨⟨a, cap, l⟩, rfl, ⟨hs, ha⟩, hg⟩

/-- A slice of slices, opened. -/
theorem open_grid {α : Type} (f : α → Value) (good : α → Prop) {t t' e : TypeId} (ht : P.underlying t = some (.slice t')) (hc : P.cellsOf t' = 1) (ht' : P.underlying t' = some (.slice e)) (hc' : P.cellsOf e = 1)
    (hel : ∀ fuel cs y, DataW.trod enc P w base spare held fuel e cs = some y → ∃ u, cs = [f u] ∧ good u)
    {fuel : Nat} {a : Option Addr} {len cap : Nat} {x : DataW H × List MemPlace} (h : DataW.trod enc P w base spare held fuel t [.slice a len cap] = some x) :
    (a = none → len = 0 ∧ cap = 0) ∧ ∃ ks : List (Row α), ks.length = len ∧ Grid f w a ks ∧ ∀ r ∈ ks, ∀ s ∈ r.l, good s := by
  obtain ⟨ha, _, _, l, hl, hs, hg⟩ := open_src Row.val (fun u : Row α => u.Ok f w ∧ ∀ s ∈ u.l, good s) ht hc (el_row f good ht' hc' hel) h
  exact ⟨ha, l, hl, ⟨hs, fun r hr => (hg r hr).1⟩, fun r hr => (hg r hr).2⟩
end
end Go.Proofs.Youanw
