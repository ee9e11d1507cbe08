/-
  PLAIN: a map as read holds, at each key, the value of the last pair; how a map is laid over another in whatever order; how many different keys there are.
-/
import Derived.Maps.OwnSet
import Derived.Maps.RangeWalk
namespace Go.Proofs.Youanw.Mp
open Go.Maps

/-- A string as a key. -/
def lk (s : ByteArray) : Lit := .string s.data.toList

theorem lk_key (s : ByteArray) : WideAt.IsKeyLit (lk s) := trivial

theorem lk_inj {s t : ByteArray} (h : lk s = lk t) : s = t := by
  unfold lk at h
  injection h with h
  exact ByteArray.ext (Array.ext' h)

/-- The value of the last pair with that key. -/
def vl (P : List (ByteArray × Int)) (k : Lit) : Option Int := P.foldl (fun o p => if (lk p.1).sameKey k then some p.2 else o) none

theorem vl_fold (P : List (ByteArray × Int)) (k : Lit) (o : Option Int) : P.foldl (fun o p => if (lk p.1).sameKey k then some p.2 else o) o = (vl P k).or o := by
  unfold vl
  induction P generalizing o with
  | nil => simp
  | cons p t ih =>
    simp only [List.foldl_cons]
    rw [ih, ih (if (lk p.1).sameKey k = true then some p.2 else none)]
    cases (t.foldl (fun o p => if (lk p.1).sameKey k then some p.2 else o) none) with
    | some v => rfl
    | none => by_cases h : (lk p.1).sameKey k = true <;> simp [h]

theorem vl_append (P Q : List (ByteArray × Int)) (k : Lit) : vl (P ++ Q) k = (vl Q k).or (vl P k) := by
  rw [← vl_fold]; unfold vl; rw [List.foldl_append]

theorem vl_one (p : ByteArray × Int) (k : Lit) : vl [p] k = if (lk p.1).sameKey k then some p.2 else none := rfl

theorem vl_none {P : List (ByteArray × Int)} {k : Lit} (h : ∀ p ∈ P, lk p.1 ≠ k) : vl P k = none := by
  induction P with
  | nil => rfl
  | cons p t ih =>
    have e : p :: t = [p] ++ t := rfl
    rw [e, vl_append, ih (fun q hq => h q (by simp [hq])), vl_one, sameKey_ne (h p (by simp))]; rfl

theorem vl_some {P : List (ByteArray × Int)} {k : Lit} (h : (vl P k).isSome = true) : ∃ p ∈ P, lk p.1 = k := by
  induction P with
  | nil => simp [vl] at h
  | cons p t ih =>
    have e : p :: t = [p] ++ t := rfl
    rw [e, vl_append] at h
    cases hv : vl t k with
    | some v =>
      obtain ⟨q, hq, hqk⟩ := ih (by rw [hv]; rfl)
      exact ⟨q, by simp [hq], hqk⟩
    | none =>
      rw [hv, vl_one] at h
      by_cases hs : (lk p.1).sameKey k = true
      · exact ⟨p, by simp, WideAt.sameKey_eq hs⟩
      · simp [hs] at h

theorem vl_mem {P : List (ByteArray × Int)} {p : ByteArray × Int} (h : p ∈ P) : (vl P (lk p.1)).isSome = true := by
  cases hv : vl P (lk p.1) with
  | some _ => rfl
  | none =>
    exfalso
    induction P with
    | nil => simp at h
    | cons q t ih =>
      have e : q :: t = [q] ++ t := rfl
      rw [e, vl_append] at hv
      rcases List.mem_cons.1 h with rfl | h'
      · rw [vl_one, WideAt.sameKey_self (lk_key _)] at hv
        cases hvt : vl t (lk p.1) <;> simp [hvt] at hv
      · refine ih h' ?_
        cases hvt : vl t (lk p.1) with
        | none => rfl
        | some v => simp [hvt] at hv

/-- THE MAP M HOLDS THE LAST VALUE OF EACH KEY OF P, and nothing else. -/
def Holds (M : DataW Unit) (P : List (ByteArray × Int)) : Prop :=
  IsMap M ∧ ∀ k, has M k = (vl P k).isSome ∧ ∀ z, M.atKey k z = (match vl P k with | some v => .lit (.int .i64 v) | none => z)

theorem holds_start : Holds (.map []) [] := ⟨isMap_empty, fun _ => ⟨rfl, fun _ => rfl⟩⟩

theorem holds_put {M : DataW Unit} {P : List (ByteArray × Int)} (h : Holds M P) (s : ByteArray) (v : Int) : Holds (M.put (lk s) (.lit (.int .i64 v))) (P ++ [(s, v)]) := by
  refine ⟨h.1.put _ _, fun k => ?_⟩
  rw [vl_append, vl_one]
  by_cases e : k = lk s
  · subst e
    rw [has_put_same h.1 (lk_key s), WideAt.sameKey_self (lk_key s)]
    exact ⟨rfl, fun z => by rw [atKey_put_same h.1 (lk_key s)]; rfl⟩
  · have e' : lk s ≠ k := fun h => e h.symm
    rw [has_put_other e, sameKey_ne e']
    exact ⟨(h.2 k).1, fun z => by rw [atKey_put_other e]; exact (h.2 k).2 z⟩

/-- D HAS BEEN LAID OVER M0, but for what is still to come. -/
def Over (M M0 D : DataW Unit) (left : Lit → Bool) : Prop :=
  IsMap M ∧ ∀ k, has M k = (has M0 k || (has D k && !left k)) ∧ ∀ z, M.atKey k z = if has D k && !left k then D.atKey k z else M0.atKey k z

theorem over_start {M0 D : DataW Unit} (h : IsMap M0) : Over M0 M0 D (has D) :=
  ⟨h, fun k => ⟨by cases has D k <;> simp, fun z => by cases has D k <;> simp⟩⟩

theorem over_step {M M0 D : DataW Unit} {left : Lit → Bool} (h : Over M M0 D left) {kl : Lit} {d : DataW Unit} (hk : WideAt.IsKeyLit kl) (hat : ∀ zd, D.atKey kl zd = d) : Over (M.put kl d) M0 D (fun z => left z && !z.sameKey kl) := by
  refine ⟨h.1.put _ _, fun k => ?_⟩
  by_cases e : k = kl
  · subst e
    simp only [WideAt.sameKey_self hk, has_true_of_atKey hat, has_put_same h.1 hk]
    exact ⟨by simp, fun z => by rw [atKey_put_same h.1 hk, hat]; simp⟩
  · simp only [sameKey_ne e, has_put_other e]
    exact ⟨by rw [(h.2 k).1]; simp, fun z => by rw [atKey_put_other e, (h.2 k).2]; simp⟩

theorem over_end {M M0 D : DataW Unit} {left : Lit → Bool} (h : Over M M0 D left) (hl : ∀ k, left k = false) {P Q : List (ByteArray × Int)} (h0 : Holds M0 P) (hD : Holds D Q) : Holds M (P ++ Q) := by
  refine ⟨h.1, fun k => ?_⟩
  have h1 := (h.2 k).1
  have h2 := (h.2 k).2
  rw [hl k, (h0.2 k).1, (hD.2 k).1] at h1
  rw [hl k, (hD.2 k).1] at h2
  rw [vl_append]
  cases hQ : vl Q k with
  | some v =>
    rw [hQ] at h1 h2
    refine ⟨by rw [h1]; simp, fun z => ?_⟩
    rw [h2]
    have := (hD.2 k).2 z
    rw [hQ] at this
    simpa using this
  | none =>
    rw [hQ] at h1 h2
    refine ⟨by rw [h1]; simp, fun z => ?_⟩
    rw [h2]
    have := (h0.2 k).2 z
    simpa using this

/-! ### how many different ones -/

/-- The different ones, each at its first place. -/
def dd (l : List (List UInt8)) : List (List UInt8) := l.foldl (fun acc x => if x ∈ acc then acc else acc ++ [x]) []

theorem dd_snoc (l : List (List UInt8)) (x : List UInt8) : dd (l ++ [x]) = if x ∈ dd l then dd l else dd l ++ [x] := by
  unfold dd; rw [List.foldl_append]; rfl

theorem snoc_ind {α : Type} {p : List α → Prop} (h0 : p []) (h1 : ∀ l x, p l → p (l ++ [x])) (l : List α) : p l := by
  have : ∀ n, n ≤ l.length → p (l.take n) := by
    intro n
    induction n with
    | zero => intro _; simpa using h0
    | succ n ih =>
      intro hn
      rw [List.take_succ_eq_append_getElem (by omega)]
      exact h1 _ _ (ih (by omega))
  have := this l.length (Nat.le_refl _)
  rwa [List.take_of_length_le (Nat.le_refl _)] at this

theorem dd_spec (l : List (List UInt8)) : (dd l).Nodup ∧ ∀ x, x ∈ dd l ↔ x ∈ l := by
  refine snoc_ind (p := fun l => (dd l).Nodup ∧ ∀ x, x ∈ dd l ↔ x ∈ l) ⟨by simp [dd], by simp [dd]⟩ (fun l x ih => ?_) l
  rw [dd_snoc]
  by_cases h : x ∈ dd l
  · rw [if_pos h]
    refine ⟨ih.1, fun y => ?_⟩
    rw [List.mem_append, ih.2]
    constructor
    · exact fun hy => .inl hy
    · rintro (hy | hy)
      · exact hy
      · simp at hy; subst hy; exact (ih.2 _).1 h
  · rw [if_neg h]
    refine ⟨?_, fun y => by rw [List.mem_append, List.mem_append, ih.2]⟩
    rw [List.nodup_append]
    refine ⟨ih.1, by simp, fun a ha b hb => ?_⟩
    simp at hb; subst hb
    exact fun e => h (e ▸ ha)

theorem length_le_of {α : Type} : ∀ {l₁ l₂ : List α}, l₁.Nodup → (∀ x ∈ l₁, x ∈ l₂) → l₁.length ≤ l₂.length
  | [], _, _, _ => Nat.zero_le _
  | x :: t, l₂, hd, hs => by
    obtain ⟨h1, h2⟩ := List.nodup_cons.1 hd
    obtain ⟨A, B, rfl⟩ := List.append_of_mem (hs x (by simp))
    have := length_le_of (l₁ := t) (l₂ := A ++ B) h2 (fun y hy => by
      have hy' := hs y (by simp [hy])
      rcases List.mem_append.1 hy' with h | h
      · exact List.mem_append_left _ h
      · rcases List.mem_cons.1 h with rfl | h
        · exact absurd hy h1
        · exact List.mem_append_right _ h)
    simp at this ⊢
    omega

theorem nodup_map {α β : Type} {f : α → β} (hf : ∀ a b, f a = f b → a = b) : ∀ {l : List α}, l.Nodup → (l.map f).Nodup
  | [], _ => by simp
  | x :: t, h => by
    obtain ⟨h1, h2⟩ := List.nodup_cons.1 h
    rw [List.map_cons, List.nodup_cons]
    refine ⟨fun hm => ?_, nodup_map hf h2⟩
    obtain ⟨y, hy, e⟩ := List.mem_map.1 hm
    exact h1 (hf _ _ e ▸ hy)

/-- THE SIZE OF SUCH A MAP. -/
theorem size_holds {M : DataW Unit} {P : List (ByteArray × Int)} (h : Holds M P) (ht : ∃ es, M = .map es ∧ es.Pairwise (fun p q => p.1 ≠ q.1) ∧ ∀ p ∈ es, WideAt.IsKeyLit p.1) :
    size M = (dd (P.map (fun p => p.1.data.toList))).length := by
  obtain ⟨es, rfl, hp, hkey⟩ := ht
  have hd := dd_spec (P.map (fun p => p.1.data.toList))
  have mem : ∀ k, k ∈ es.map Prod.fst → ∃ x ∈ dd (P.map (fun p => p.1.data.toList)), Lit.string x = k := by
    intro k hk
    obtain ⟨q, hq, rfl⟩ := List.mem_map.1 hk
    have h1 : has (.map es) q.1 = true := List.any_eq_true.2 ⟨q, hq, WideAt.sameKey_self (hkey q hq)⟩
    rw [(h.2 q.1).1] at h1
    obtain ⟨p, hp', hpk⟩ := vl_some h1
    exact ⟨p.1.data.toList, (hd.2 _).2 (List.mem_map.2 ⟨p, hp', rfl⟩), hpk⟩
  have mem' : ∀ x ∈ dd (P.map (fun p => p.1.data.toList)), Lit.string x ∈ es.map Prod.fst := by
    intro x hx
    obtain ⟨p, hp', rfl⟩ := List.mem_map.1 ((hd.2 x).1 hx)
    have h1 := vl_mem hp'
    rw [← (h.2 (lk p.1)).1] at h1
    obtain ⟨q, hq, hs⟩ := List.any_eq_true.1 h1
    exact List.mem_map.2 ⟨q, hq, WideAt.sameKey_eq hs⟩
  have n1 : (es.map Prod.fst).Nodup := List.pairwise_map.2 hp
  have n2 : ((dd (P.map (fun p => p.1.data.toList))).map Lit.string).Nodup := nodup_map (fun a b e => by injection e) hd.1
  have l1 : (es.map Prod.fst).length ≤ ((dd (P.map (fun p => p.1.data.toList))).map Lit.string).length := length_le_of n1 (fun k hk => by
    obtain ⟨x, hx, rfl⟩ := mem k hk
    exact List.mem_map.2 ⟨x, hx, rfl⟩)
  have l2 : ((dd (P.map (fun p => p.1.data.toList))).map Lit.string).length ≤ (es.map Prod.fst).length := length_le_of n2 (fun k hk => by
    obtain ⟨x, hx, rfl⟩ := List.mem_map.1 hk
    exact mem' x hx)
  simp at l1 l2
  show es.length = _
  omega

end Go.Proofs.Youanw.Mp
