/-
  SHARED BY THE WALKS: what a slice reads as, and how it is carried on.
-/
import Derived.Test.YouanwRows
import Derived.WalkKit
import Derived.WalkSpells
import Derived.WalkLawsBesides
namespace Go.Proofs.Youanw
open Go.RowKit

/-- The slice at 'a' reads as 'xs' (its elements, one cell each). -/
def Src (w : World) (a : Option Addr) (xs : List Value) : Prop :=
  xs ≠ [] → ∃ b off, a = some ⟨b, off, none⟩ ∧ b < w.heap.size ∧ ∀ j, j < xs.length → w.cell? ⟨b, off + j, none⟩ = xs[j]?

theorem Src.below {w w' : World} {a : Option Addr} {xs : List Value} (h : Src w a xs) (hb : Below w.heap.size w w') : Src w' a xs := by
  intro hne
  obtain ⟨b, off, ha, hlt, hc⟩ := h hne
  exact ⟨b, off, ha, Nat.lt_of_lt_of_le hlt hb.size, fun j hj => (hb.cell hlt).trans (hc j hj)⟩

theorem Src.nil (w : World) (a : Option Addr) : Src w a [] := fun h => absurd rfl h

/-- What a call has made and filled reads as what it owns. -/
theorem Src.own {w : World} {base e : Nat} {g n cap : Nat} {xs : List Value} (h : w.ownsRow base e 1 (.slice (some ⟨g, 0, none⟩) n cap) n xs) : Src w (some ⟨g, 0, none⟩) xs := by
  intro _
  have hl := h.1
  refine ⟨g, 0, rfl, (h.lt g rfl).2, fun j hj => ?_⟩
  rw [Nat.zero_add]
  exact h.cellAt j (by omega)

theorem take_set_step {xs zs : List Value} {k : Nat} {v : Value} (h : zs.take k = xs.take k) (hk : k < zs.length) (hv : xs[k]? = some v) : (zs.set k v).take (k + 1) = xs.take (k + 1) := by
  have hkx : k < xs.length := (List.getElem?_eq_some_iff.1 hv).1
  have e : xs[k] = v := (List.getElem?_eq_some_iff.1 hv).2
  rw [List.take_succ_eq_append_getElem (by simpa using hk), List.take_succ_eq_append_getElem hkx, List.getElem_set_self, e, List.take_set_of_le (Nat.le_refl _), h]

/-- The element at place k, with its cell in a later world. -/
theorem Src.at_ {α : Type} {f : α → Value} {l : List α} {w w' : World} {a : Option Addr} (h : Src w a (l.map f)) (hb : Below w.heap.size w w') {k : Nat} (hk : k < l.length) :
    ∃ b off u, a = some ⟨b, off, none⟩ ∧ l[k]? = some u ∧ w'.cell? ⟨b, off + k, none⟩ = some (f u) := by
  obtain ⟨b, off, ha, hlt, hc⟩ := h (by intro e; have := congrArg List.length e; simp at this; rw [this] at hk; simp at hk)
  refine ⟨b, off, l[k], ha, by simp, ?_⟩
  rw [hb.cell (by exact hlt), hc k (by simpa using hk)]
  simp [hk]

theorem Src.at_block {α : Type} {f : α → Value} {l : List α} {w : World} {b off : Nat} (h : Src w (some ⟨b, off, none⟩) (l.map f)) {k : Nat} (hk : k < l.length) : b < w.heap.size := by
  obtain ⟨b', off', ha, hlt, _⟩ := h (by intro e; have := congrArg List.length e; simp at this; rw [this] at hk; simp at hk)
  cases ha; exact hlt

theorem own_at {w : World} {base e : Nat} {g n cap : Nat} {zs : List Value} (h : w.ownsRow base e 1 (.slice (some ⟨g, 0, none⟩) n cap) n zs) {k : Nat} (hk : k < n) :
    ∃ z, w.cell? ⟨g, k, none⟩ = some z := by
  have hl := h.1
  exact ⟨zs[k]'(by omega), by rw [h.cellAt k (by omega)]; simp⟩

/-- A round's store: what is owned, and what lies below. -/
theorem own_store {w w0 : World} {B e : Nat} {n cap : Nat} {xs zs : List Value} (h : w.ownsRow B e 1 (.slice (some ⟨B, 0, none⟩) n cap) n zs) {k : Nat} (hk : k < n) {v : Value} (hv : xs[k]? = some v) (ht : zs.take k = xs.take k) (hb : Below B w0 w) :
    (w.setCell ⟨B, k, none⟩ v).ownsRow B e 1 (.slice (some ⟨B, 0, none⟩) n cap) n (zs.set k v) ∧ (zs.set k v).take (k + 1) = xs.take (k + 1) ∧ Below B w0 (w.setCell ⟨B, k, none⟩ v) :=
  ⟨(h.stored k v).1, take_set_step ht (by have := h.1; omega) hv, hb.setCell (Nat.le_refl _) v⟩

/-- The whole is filled. -/
theorem own_full {w : World} {base e : Nat} {g n cap : Nat} {xs zs : List Value} (h : w.ownsRow base e 1 (.slice (some ⟨g, 0, none⟩) n cap) n zs) (hx : xs.length = n) {k : Nat} (hk : ¬ k < n) (ht : zs.take k = xs.take k) : Src w (some ⟨g, 0, none⟩) xs := by
  have hl := h.1
  rw [List.take_of_length_le (by omega), List.take_of_length_le (by omega)] at ht
  subst ht
  exact Src.own h

/-- A float stored: the law that the walk's set lacks. -/
theorem run_store_float (P : Program) (w : World) (a : Addr) (m : Mode) (k : FloatKind) (b : Nat) : (store a (.float k b) m).run P w = stored P w a (.float k b) m := run_store P w a _ m rfl

/-- A block of one cell laid behind the rest. -/
theorem one_cell (w : World) (v : Value) (t : TypeId) : (w.alloc (.cells #[v] t)).cell? ⟨w.heap.size, 0, none⟩ = some v := by simp
theorem one_below (w : World) (o : Obj) : Below w.heap.size w (w.alloc o) := (Below.refl _ _).alloc (Nat.le_refl _) o
theorem one_then {w w' : World} {o : Obj} (h : Below (w.alloc o).heap.size (w.alloc o) w') : Below w.heap.size w w' := (one_below w o).trans (h.mono (by simp))
/-- One call behind another. -/
theorem Below.next {w w1 w2 : World} (h : Below w.heap.size w w1) (k : Below w1.heap.size w1 w2) : Below w.heap.size w w2 := h.trans (k.mono h.size)

theorem Uang.info2 : (Uang.prog.info? 2).map (fun i => (i.zero, i.size, i.bytes)) = some (some (.int .i64 0), 1, 8) := by kernel_rfl
theorem Uang.info37 : (Uang.prog.info? 37).map (fun i => (i.zero, i.size, i.bytes)) = some (some (.float .f64 0), 1, 8) := by kernel_rfl
theorem Uang.info20 : (Uang.prog.info? 20).map (fun i => (i.zero, i.size, i.bytes)) = some (some .nilIface, 1, 16) := by kernel_rfl
theorem Uang.info9 : (Uang.prog.info? 9).map (fun i => (i.zero, i.size, i.bytes)) = some (some (.string ByteArray.empty), 1, 16) := by kernel_rfl


/-! What a type assertion gives, type by type. -/
theorem as53 (v : Value) (w : World) : (Instr.typeAssert (.iface 53 v) 20 53 true).run Uang.prog w = .ok (.tuple #[v, .bool true]) w := by kernel_rfl
theorem as37 (v : Value) (w : World) : (Instr.typeAssert (.iface 37 v) 20 37 true).run Uang.prog w = .ok (.tuple #[v, .bool true]) w := by kernel_rfl
theorem as37f (v : Value) (w : World) : (Instr.typeAssert (.iface 37 v) 20 37 false).run Uang.prog w = .ok v w := by kernel_rfl
theorem as9_37 (v : Value) (w : World) : (Instr.typeAssert (.iface 9 v) 20 37 true).run Uang.prog w = .ok (.tuple #[.float .f64 0, .bool false]) w := by kernel_rfl
theorem as9 (v : Value) (w : World) : (Instr.typeAssert (.iface 9 v) 20 9 true).run Uang.prog w = .ok (.tuple #[v, .bool true]) w := by kernel_rfl
theorem as9f (v : Value) (w : World) : (Instr.typeAssert (.iface 9 v) 20 9 false).run Uang.prog w = .ok v w := by kernel_rfl
theorem as54f (v : Value) (w : World) : (Instr.typeAssert (.iface 54 v) 20 54 false).run Uang.prog w = .ok v w := by kernel_rfl
theorem as2f (v : Value) (w : World) : (Instr.typeAssert (.iface 2 v) 20 2 false).run Uang.prog w = .ok v w := by kernel_rfl

end Go.Proofs.Youanw
