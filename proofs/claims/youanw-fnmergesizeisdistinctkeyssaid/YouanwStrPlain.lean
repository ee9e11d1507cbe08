/-
  PLAIN: byte-wise order on strings: it is a strict total order; the hand-written comparison finds it; the least of a list.
-/
import Derived.Laws.Strings
namespace Go.Proofs.Youanw.St

theorem bl_irrefl : ∀ x : List UInt8, Op.bytesLess x x = false
  | [] => rfl
  | a :: x => by
    have := bl_irrefl x
    simp [Op.bytesLess, this]

theorem bl_cons (a b : UInt8) (x y : List UInt8) : Op.bytesLess (a :: x) (b :: y) = (decide (a < b) || (a == b && Op.bytesLess x y)) := rfl

theorem bl_trans : ∀ x y z : List UInt8, Op.bytesLess x y = true → Op.bytesLess y z = true → Op.bytesLess x z = true
  | _, [], _, h, _ => by simp [Op.bytesLess] at h
  | _, _ :: _, [], _, h => by simp [Op.bytesLess] at h
  | [], _ :: _, _ :: _, _, _ => rfl
  | a :: x, b :: y, c :: z, h1, h2 => by
    rw [bl_cons] at h1 h2 ⊢
    simp only [Bool.or_eq_true, decide_eq_true_eq, Bool.and_eq_true, beq_iff_eq, UInt8.lt_iff_toNat_lt, ← UInt8.toNat_inj] at h1 h2 ⊢
    rcases h1 with h1 | ⟨h1, h1'⟩
    · rcases h2 with h2 | ⟨h2, _⟩
      · left; omega
      · left; omega
    · rcases h2 with h2 | ⟨h2, h2'⟩
      · left; omega
      · right; exact ⟨by omega, bl_trans x y z h1' h2'⟩

theorem bl_total : ∀ x y : List UInt8, Op.bytesLess x y = false → Op.bytesLess y x = false → x = y
  | [], [], _, _ => rfl
  | [], _ :: _, h, _ => by simp [Op.bytesLess] at h
  | _ :: _, [], _, h => by simp [Op.bytesLess] at h
  | a :: x, b :: y, h1, h2 => by
    rw [bl_cons] at h1 h2
    simp only [Bool.or_eq_false_iff, decide_eq_false_iff_not, Bool.and_eq_false_iff, beq_eq_false_iff_ne, ne_eq, UInt8.lt_iff_toNat_lt, ← UInt8.toNat_inj] at h1 h2
    have e : a = b := UInt8.toNat_inj.1 (by omega)
    subst e
    rw [bl_total x y (by rcases h1.2 with h | h; exact absurd rfl h; exact h) (by rcases h2.2 with h | h; exact absurd rfl h; exact h)]

/-- 'a < b' on strings. -/
def less (a b : ByteArray) : Bool := Op.bytesLess a.toList b.toList

theorem less_irrefl (a : ByteArray) : less a a = false := bl_irrefl _
theorem less_trans {a b c : ByteArray} (h1 : less a b = true) (h2 : less b c = true) : less a c = true := bl_trans _ _ _ h1 h2
theorem toList_inj {a b : ByteArray} (h : a.toList = b.toList) : a = b := by
  rw [ByteArray.toList_eq, ByteArray.toList_eq] at h
  exact ByteArray.ext (Array.ext' h)
theorem less_total {a b : ByteArray} (h1 : less a b = false) (h2 : less b a = false) : a = b := toList_inj (bl_total _ _ h1 h2)
theorem less_asymm {a b : ByteArray} (h1 : less a b = true) : less b a = false := by
  cases h : less b a
  · rfl
  · have := less_trans h1 h; rw [less_irrefl] at this; cases this
/-- What is not below m is above whatever is below m. -/
theorem less_of {u v m : ByteArray} (h1 : less v m = false) (h2 : less u m = true) : less v u = false := by
  cases h : less v u
  · rfl
  · rw [less_trans h h2] at h1; cases h1

/-! ### the hand-written comparison -/

/-- The first k bytes agree. -/
def Same (a b : ByteArray) (k : Nat) : Prop := a.data.toList.take k = b.data.toList.take k

theorem same_zero (a b : ByteArray) : Same a b 0 := rfl

theorem get_list (a : ByteArray) (k : Nat) (h : k < a.size) : a.data.toList[k]? = some a[k] := by
  rw [List.getElem?_eq_getElem (by simpa using h)]; rfl

theorem same_succ {a b : ByteArray} {k : Nat} (h : Same a b k) (ha : k < a.size) (hb : k < b.size) (e : a[k] = b[k]) : Same a b (k + 1) := by
  unfold Same at *
  rw [List.take_add_one, List.take_add_one, h, get_list a k ha, get_list b k hb, e]

theorem bl_differ : ∀ (x y : List UInt8) (k : Nat) (u v : UInt8), x.take k = y.take k → x[k]? = some u → y[k]? = some v → u ≠ v → Op.bytesLess x y = decide (u < v)
  | [], _, _, _, _, _, h, _, _ => by simp at h
  | _ :: _, [], _, _, _, _, _, h, _ => by simp at h
  | a :: x, b :: y, 0, u, v, _, h1, h2, hne => by
    simp at h1 h2
    subst h1; subst h2
    rw [bl_cons]
    have : (a == b) = false := by simpa using hne
    simp [this]
  | a :: x, b :: y, k + 1, u, v, h, h1, h2, hne => by
    simp at h h1 h2
    rw [bl_cons]
    obtain ⟨rfl, h⟩ := h
    have ih := bl_differ x y k u v h h1 h2 hne
    simp [ih]

theorem bl_same : ∀ (x y : List UInt8) (k : Nat), x.take k = y.take k → k = min x.length y.length → Op.bytesLess x y = decide (x.length < y.length)
  | [], [], _, _, _ => rfl
  | [], _ :: _, _, _, _ => by simp [Op.bytesLess]
  | _ :: _, [], _, _, _ => by simp [Op.bytesLess]
  | a :: x, b :: y, k, h, hk => by
    obtain ⟨k, rfl⟩ : ∃ j, k = j + 1 := ⟨k - 1, by simp at hk; omega⟩
    simp at h
    obtain ⟨rfl, h⟩ := h
    have ih := bl_same x y k h (by simp at hk; omega)
    rw [bl_cons, ih]
    simp

theorem less_differ {a b : ByteArray} {k : Nat} (h : Same a b k) (ha : k < a.size) (hb : k < b.size) (e : (a[k].toNat : Int) ≠ (b[k].toNat : Int)) : less a b = decide ((a[k].toNat : Int) < (b[k].toNat : Int)) := by
  unfold less
  rw [ByteArray.toList_eq, ByteArray.toList_eq, bl_differ _ _ k _ _ h (get_list a k ha) (get_list b k hb) (fun h => e (by rw [h]))]
  rw [decide_eq_decide, UInt8.lt_iff_toNat_lt]
  omega

theorem less_same {a b : ByteArray} {k : Nat} (h : Same a b k) (hk : k = min a.size b.size) : less a b = decide (a.size < b.size) := by
  unfold less
  rw [ByteArray.toList_eq, ByteArray.toList_eq, bl_same _ _ k h (by simpa using hk)]
  rfl

/-! ### the least of a list -/

/-- The loop: 'if item < best { best = item }'. -/
def minS (x : ByteArray) (r : List ByteArray) : ByteArray := r.foldl (fun best item => if less item best then item else best) x

theorem minS_take (x : ByteArray) (r : List ByteArray) (k : Nat) (u : ByteArray) (h : r[k]? = some u) : minS x (r.take (k + 1)) = if less u (minS x (r.take k)) then u else minS x (r.take k) := by
  have hk := (List.getElem?_eq_some_iff.1 h).1
  have e := (List.getElem?_eq_some_iff.1 h).2
  rw [List.take_succ_eq_append_getElem hk, e]
  unfold minS; rw [List.foldl_append]; rfl

/-- 'm' is among them and none is below it. -/
def Least (l : List ByteArray) (m : ByteArray) : Prop := m ∈ l ∧ ∀ v ∈ l, less v m = false

theorem Least.unique {l : List ByteArray} {m m' : ByteArray} (h : Least l m) (h' : Least l m') : m = m' := less_total (h'.2 m h.1) (h.2 m' h'.1)

theorem minS_least (x : ByteArray) (r : List ByteArray) : Least (x :: r) (minS x r) := by
  unfold minS
  induction r generalizing x with
  | nil => exact ⟨by simp, fun v hv => by simp at hv; subst hv; exact less_irrefl _⟩
  | cons u t ih =>
    simp only [List.foldl_cons]
    by_cases c : less u x = true
    · rw [if_pos c]
      have := ih u
      refine ⟨List.mem_cons_of_mem _ this.1, fun v hv => ?_⟩
      rcases List.mem_cons.1 hv with rfl | hv
      · -- v = x, u < x, nothing is below the least of u :: t
        have hu := this.2 u (by simp)
        generalize List.foldl (fun best item => if less item best = true then item else best) u t = m at *
        cases h : less v m
        · rfl
        · rw [less_trans c h] at hu; cases hu
      · exact this.2 v hv
    · rw [if_neg c]
      have := ih x
      refine ⟨?_, fun v hv => ?_⟩
      · rcases List.mem_cons.1 this.1 with h | h
        · rw [h]; simp
        · exact List.mem_cons_of_mem _ (List.mem_cons_of_mem _ h)
      · rcases List.mem_cons.1 hv with rfl | hv
        · exact this.2 v (by simp)
        · rcases List.mem_cons.1 hv with rfl | hv
          · have hx := this.2 x (by simp)
            generalize List.foldl (fun best item => if less item best = true then item else best) x t = m at *
            cases h : less v m
            · rfl
            · -- v < m, m ≤ x, so v < x
              exfalso
              cases h2 : less m x
              · have : m = x := less_total h2 hx
                subst this; exact c h
              · exact c (less_trans h h2)
          · exact this.2 v (List.mem_cons_of_mem _ hv)

/-- The least of two lists put together. -/
theorem Least.append {l l' : List ByteArray} {a b c : ByteArray} (ha : Least l a) (hb : Least l' b) (hc : Least (l ++ l') c) : c = if less b a = true then b else a := by
  by_cases h : less b a = true
  · rw [if_pos h]
    refine hc.unique ⟨List.mem_append_right _ hb.1, fun v hv => ?_⟩
    rcases List.mem_append.1 hv with hv | hv
    · exact less_of (ha.2 v hv) h
    · exact hb.2 v hv
  · rw [if_neg h]
    have h' : less b a = false := by simpa using h
    refine hc.unique ⟨List.mem_append_left _ ha.1, fun v hv => ?_⟩
    rcases List.mem_append.1 hv with hv | hv
    · exact ha.2 v hv
    · cases h2 : less v a
      · rfl
      · exfalso
        have h3 := hb.2 v hv
        cases h4 : less a b
        · have : a = b := less_total h4 h'
          subst this; rw [h2] at h3; cases h3
        · rw [less_trans h2 h4] at h3; cases h3

end Go.Proofs.Youanw.St
