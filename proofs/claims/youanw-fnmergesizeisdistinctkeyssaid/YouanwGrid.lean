/-
  SLICES OF SLICES: how they read, and the walks of the functions that measure and copy them.
-/
import Derived.Test.YouanwClones
import Derived.Test.YouanwStr
namespace Go.Proofs.Youanw
open Go.RowKit

/-- One inner slice: where it lies, its capacity, its elements. -/
structure Row (α : Type) where
  a : Option Addr
  cap : Nat
  l : List α

/-- .. as a value. -/
def Row.val {α : Type} (r : Row α) : Value := .slice r.a r.l.length r.cap

/-- An inner slice reads as its elements. -/
def Row.Ok {α : Type} (f : α → Value) (w : World) (r : Row α) : Prop := Src w r.a (r.l.map f) ∧ (r.a = none → r.l.length = 0 ∧ r.cap = 0)

/-- The slice at 'a' reads as the rows 'rs'. -/
def Grid {α : Type} (f : α → Value) (w : World) (a : Option Addr) (rs : List (Row α)) : Prop := Src w a (rs.map Row.val) ∧ ∀ r ∈ rs, r.Ok f w

theorem Grid.below {α : Type} {f : α → Value} {w w' : World} {a : Option Addr} {rs : List (Row α)} (h : Grid f w a rs) (hb : Below w.heap.size w w') : Grid f w' a rs :=
  ⟨h.1.below hb, fun r hr => ⟨(h.2 r hr).1.below hb, (h.2 r hr).2⟩⟩

/-- The row at place k. -/
theorem Grid.row {α : Type} {f : α → Value} {w w' : World} {a : Option Addr} {rs : List (Row α)} (h : Grid f w a rs) (hb : Below w.heap.size w w') {k : Nat} (hk : k < rs.length) :
    ∃ b off ra rc rl, a = some ⟨b, off, none⟩ ∧ rs[k]? = some ⟨ra, rc, rl⟩ ∧ w'.cell? ⟨b, off + k, none⟩ = some (.slice ra rl.length rc) ∧ Src w ra (rl.map f) ∧ (ra = none → rl.length = 0 ∧ rc = 0) ∧ b < w.heap.size := by
  obtain ⟨b, off, ⟨ra, rc, rl⟩, ha, hr, hc⟩ := h.1.at_ hb hk
  have hin := h.2 _ (List.mem_of_getElem? hr)
  subst ha
  exact ⟨b, off, ra, rc, rl, rfl, hr, hc, hin.1, hin.2, h.1.at_block hk⟩

set_option maxHeartbeats 1000000 in
theorem mergeBytes_any (a b : Option Addr) (n c m d : Nat) (ks : List (Row ByteArray)) (vs : List (Row Int)) (w : World) (hka : ks.length = n) (hva : vs.length = m) (hk : Grid Value.string w a ks) (hv : Grid (Value.int .i64) w b vs) (hn : n ≤ 4096) (hm : m ≤ 4096) :
    Calls Uang.prog 11 #[.slice a n c, .slice b m d] w fun e w' => (∃ t : Int, e = .returned (.int .i64 t) ∧ 0 ≤ t ∧ t ≤ 33554432 ∧ (t ≤ 1048576 → (∀ r ∈ ks, r.l.length ≤ 1048576) ∧ ∀ r ∈ vs, r.l.length ≤ 1048576)) ∧ w = w' := by
  go_enter Uang.func11, Uang.ntmps11
  go_wp2
  go_loop [5, 6] (fun s i => ∃ (k : Nat) (t : Int), k ≤ n ∧ i = .int .i64 k ∧ s = .int .i64 t ∧ 0 ≤ t ∧ t ≤ 1048576 ∧ ∀ (j : Nat) (r : Row ByteArray), j < k → ks[j]? = some r → r.l.length ≤ 1048576) (fun _ i => n - (intOf i).toNat)
  case atStart => exact ⟨0, 0, Nat.zero_le _, rfl, rfl, by omega, by omega, fun j r hj => absurd hj (by omega)⟩
  case round =>
    obtain ⟨k, t, hkn, rfl, rfl, ht0, ht1, hall⟩ := hrel
    by_cases hlt : k < n
    · obtain ⟨b1, off1, ra, rc, rl, hxe, hr, hcr, hsr, _, _⟩ := hk.row (Below.refl _ _) (k := k) (by omega)
      cases hxe
      by_cases h1 : 1048576 < rl.length
      · go_wp2
        go_ret
        exact ⟨⟨1048577, rfl, by omega, by omega, fun h => absurd h (by omega)⟩, rfl⟩
      · have HA : Hid (∀ (j : Nat) (r : Row ByteArray), j < k + 1 → ks[j]? = some r → r.l.length ≤ 1048576) := by
          intro j r hj hjr
          by_cases e : j < k
          · exact hall j r e hjr
          · have : j = k := by omega
            subst this; rw [hr] at hjr; cases hjr; show rl.length ≤ _; omega
        clear hall
        by_cases h2 : 1048576 < t + (24 + 16 * (rl.length : Int))
        · go_wp2
          go_ret
          exact ⟨⟨t + (24 + 16 * (rl.length : Int)), rfl, by omega, by omega, fun h => absurd h (by omega)⟩, rfl⟩
        · go_wp2
          go_loop [5, 7] (fun s i => ∃ (j : Nat) (t : Int), j ≤ rl.length ∧ i = .int .i64 j ∧ s = .int .i64 t ∧ 0 ≤ t ∧ t ≤ 1048576) (fun _ i => rl.length - (intOf i).toNat)
          case atStart => exact ⟨0, _, Nat.zero_le _, rfl, rfl, by omega, by omega⟩
          case round =>
            obtain ⟨j, t2, hj, rfl, rfl, hu0, hu1⟩ := hrel
            by_cases hlj : j < rl.length
            · obtain ⟨b2, off2, u, hxe, hu, hcu⟩ := hsr.at_ (Below.refl _ _) (k := j) hlj
              cases hxe
              by_cases h3 : 1048576 < u.size
              · go_wp2
                go_ret
                exact ⟨⟨1048577, rfl, by omega, by omega, fun h => absurd h (by omega)⟩, rfl⟩
              · by_cases h4 : 1048576 < t2 + u.size
                · go_wp2
                  go_ret
                  exact ⟨⟨t2 + u.size, rfl, by omega, by omega, fun h => absurd h (by omega)⟩, rfl⟩
                · go_wp2
                  go_round
                  case rel => exact ⟨j + 1, t2 + u.size, by omega, by go_num, by go_num, by omega, by omega⟩
                  case measure => simp [intOf]; omega
            · go_wp2
              go_round
              case rel => exact ⟨k + 1, t2, by omega, by go_num, rfl, hu0, hu1, HA.out⟩
              case measure => simp [intOf]; omega
    · have HA : Hid (∀ r ∈ ks, r.l.length ≤ 1048576) := by
        intro r hr
        obtain ⟨j, hj⟩ := List.getElem?_of_mem hr
        exact hall j r (by have := (List.getElem?_eq_some_iff.1 hj).1; omega) hj
      clear hall
      go_wp2
      go_loop [5, 8] (fun s i => ∃ (j : Nat) (t : Int), j ≤ m ∧ i = .int .i64 j ∧ s = .int .i64 t ∧ 0 ≤ t ∧ t ≤ 1048576 ∧ ∀ (q : Nat) (r : Row Int), q < j → vs[q]? = some r → r.l.length ≤ 1048576) (fun _ i => m - (intOf i).toNat)
      case atStart => exact ⟨0, _, Nat.zero_le _, rfl, rfl, by omega, by omega, fun j r hj => absurd hj (by omega)⟩
      case round =>
        obtain ⟨j, t2, hj, rfl, rfl, hu0, hu1, hall⟩ := hrel
        by_cases hlj : j < m
        · obtain ⟨b1, off1, ra, rc, rl, hxe, hr, hcr, hsr, _, _⟩ := hv.row (Below.refl _ _) (k := j) (by omega)
          cases hxe
          by_cases h1 : 1048576 < rl.length
          · go_wp2
            go_ret
            exact ⟨⟨1048577, rfl, by omega, by omega, fun h => absurd h (by omega)⟩, rfl⟩
          · have HB : Hid (∀ (q : Nat) (r : Row Int), q < j + 1 → vs[q]? = some r → r.l.length ≤ 1048576) := by
              intro q r hq hqr
              by_cases e : q < j
              · exact hall q r e hqr
              · have : q = j := by omega
                subst this; rw [hr] at hqr; cases hqr; show rl.length ≤ _; omega
            clear hall
            by_cases h2 : 1048576 < t2 + (24 + 8 * (rl.length : Int))
            · go_wp2
              go_ret
              exact ⟨⟨t2 + (24 + 8 * (rl.length : Int)), rfl, by omega, by omega, fun h => absurd h (by omega)⟩, rfl⟩
            · go_wp2
              go_round
              case rel => exact ⟨j + 1, t2 + (24 + 8 * (rl.length : Int)), by omega, by go_num, by go_num, by omega, by omega, HB.out⟩
              case measure => simp [intOf]; omega
        · have HB : Hid (∀ r ∈ vs, r.l.length ≤ 1048576) := by
            intro r hr
            obtain ⟨q, hq⟩ := List.getElem?_of_mem hr
            exact hall q r (by have := (List.getElem?_eq_some_iff.1 hq).1; omega) hq
          clear hall
          go_wp2
          go_ret
          exact ⟨⟨t2, rfl, by omega, by omega, fun _ => ⟨HA.out, HB.out⟩⟩, rfl⟩
end Go.Proofs.Youanw
