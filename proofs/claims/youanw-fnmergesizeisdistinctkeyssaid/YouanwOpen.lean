/-
  HOW A SLICE AMONG THE ARGUMENTS IS OPENED: one list, whatever the element type, by a law for one element.
-/
import Derived.Test.YouanwParts
import Derived.ProofKit
import Derived.ChangeOld
namespace Go.Proofs.Youanw
open Go.ChangeShapes Go.WideShapes Go.RowKit

theorem list_of {α : Type} {p : Nat → α → Prop} : ∀ n, (∀ i, i < n → ∃ u, p i u) → ∃ l : List α, l.length = n ∧ ∀ i u, l[i]? = some u → p i u
  | 0, _ => ⟨[], rfl, by simp⟩
  | n + 1, h => by
    obtain ⟨l, hl, hp⟩ := list_of n (fun i hi => h i (by omega))
    obtain ⟨u, hu⟩ := h n (by omega)
    refine ⟨l ++ [u], by simp [hl], fun i v hv => ?_⟩
    by_cases hi : i < n
    · rw [List.getElem?_append_left (by omega)] at hv; exact hp i v hv
    · have hi2 : i = n := by
        have := (List.getElem?_eq_some_iff.1 hv).1
        simp at this; omega
      subst hi2
      rw [List.getElem?_append_right (by omega)] at hv
      simp [hl] at hv
      subst hv; exact hu

theorem Src.of_cells {α : Type} {f : α → Value} {l : List α} {x : Addr} {w : World} (h : ∀ i u, l[i]? = some u → w.cell? (x.add i) = some (f u)) : Src w (some x) (l.map f) := by
  intro hne
  cases l with
  | nil => simp at hne
  | cons u0 r =>
    have h0 := h 0 u0 rfl
    obtain ⟨b, off, spot⟩ := x
    have hspot : spot = none := by simpa [Addr.add] using World.cell?_spot h0
    subst hspot
    refine ⟨b, off, rfl, by have := World.block_lt_of_cell? w _ h0; simpa [add_plain] using this, fun j hj => ?_⟩
    have hj' : j < (u0 :: r).length := by simpa using hj
    rw [← add_plain, h j _ (List.getElem?_eq_getElem hj'), List.getElem?_map, List.getElem?_eq_getElem hj']
    rfl

section
variable {H : Type} {enc : TypeId × Value → H} {P : Program} {w : World} {base : Nat} {spare : Nat → Bool} {held : Bool}

theorem open_src {α : Type} (f : α → Value) (good : α → Prop) {t e : TypeId} (ht : P.underlying t = some (.slice e)) (hc : P.cellsOf e = 1)
    (hel : ∀ fuel cs y, DataW.trod enc P w base spare held fuel e cs = some y → ∃ u, cs = [f u] ∧ good u)
    {fuel : Nat} {a : Option Addr} {len cap : Nat} {x : DataW H × List MemPlace} (h : DataW.trod enc P w base spare held fuel t [.slice a len cap] = some x) :
    (a = none → len = 0 ∧ cap = 0) ∧ len ≤ cap ∧ cap ≤ maxLen ∧ ∃ l : List α, l.length = len ∧ Src w a (l.map f) ∧ ∀ u ∈ l, good u := by
  rcases DataW.trod_slice ht h with ⟨h0, _⟩ | ⟨x0, len0, cap0, elems, rest, n, _, hcs, rfl, hb, hl, hm, hlen, hel0, hsp, hns⟩
  · simp at h0
    obtain ⟨rfl, rfl, rfl⟩ := h0
    exact ⟨fun _ => ⟨rfl, rfl⟩, Nat.le_refl _, Nat.zero_le _, [], rfl, Src.nil _ _, by simp⟩
  · simp at hcs
    obtain ⟨rfl, rfl, rfl⟩ := hcs
    refine ⟨fun h0 => absurd h0 (by simp), hl, hm, ?_⟩
    have each : ∀ i, i < len → ∃ u, w.cell? (x0.add i) = some (f u) ∧ good u := by
      intro i hi
      have hb' := hel0 i hi
      rw [List.getElem?_eq_getElem (by omega), hc, Nat.mul_one, Option.bind_eq_some_iff] at hb'
      obtain ⟨cs', hcs, hy'⟩ := hb'
      obtain ⟨u, rfl, hg⟩ := hel _ _ _ hy'
      exact ⟨u, cell_of_cells?_one hcs, hg⟩
    obtain ⟨l, hl1, hl2⟩ := list_of len each
    refine ⟨l, hl1, Src.of_cells (fun i u hu => (hl2 i u hu).1), fun u hu => ?_⟩
    obtain ⟨i, hi⟩ := List.getElem?_of_mem hu
    exact (hl2 i u hi).2

theorem el_int {e : TypeId} {k : IntKind} (he : P.underlying e = some (.int k)) (fuel : Nat) (cs : List Value) (y : DataW H × List MemPlace) (h : DataW.trod enc P w base spare held fuel e cs = some y) :
    ∃ u, cs = [Value.int k u] ∧ (Lit.int k u).wf = true := by
  obtain ⟨n, h1, _, h2⟩ := DataW.trod_int he h
  exact ⟨n, h1, h2⟩

theorem el_string {e : TypeId} (he : P.underlying e = some .string) (fuel : Nat) (cs : List Value) (y : DataW H × List MemPlace) (h : DataW.trod enc P w base spare held fuel e cs = some y) :
    ∃ u, cs = [Value.string u] ∧ u.size ≤ maxLen := by
  obtain ⟨s, h1, _, h2⟩ := DataW.trod_string he h
  exact ⟨s, h1, h2⟩

theorem el_float {e : TypeId} {k : FloatKind} (he : P.underlying e = some (.float k)) (fuel : Nat) (cs : List Value) (y : DataW H × List MemPlace) (h : DataW.trod enc P w base spare held fuel e cs = some y) :
    ∃ u, cs = [Value.float k u] ∧ (Lit.float k u).wf = true := by
  cases fuel with
  | zero => simp [DataW.trod] at h
  | succ n =>
    unfold DataW.trod at h
    rw [he] at h
    split at h <;> simp_all
end
end Go.Proofs.Youanw
