/-
  THE WALK OF jpfMerge.
-/
import Derived.Test.YouanwParts
import Derived.Test.YouanwMapPlain
import Derived.Maps.OwnOps
namespace Go.Proofs.Youanw
open Go.RowKit Go.Maps
attribute [local go_sem] as54f

/-- HOW AN ELEMENT READS: an int64 in an interface value; nil. -/
def RI (v : Value) : Option (DataW Unit × List MemPlace) :=
  match v with
  | .iface 2 (.int .i64 a) => some (.lit (.int .i64 a), [])
  | .nilIface => some (.nil, [])
  | _ => none

theorem RI_int (a : Int) : RI (.iface 2 (.int .i64 a)) = some (.lit (.int .i64 a), []) := rfl
theorem RI_nil : RI .nilIface = some (.nil, []) := rfl
theorem RI_inv {v : Value} {a : Int} {ps : List MemPlace} (h : RI v = some (.lit (.int .i64 a), ps)) : v = .iface 2 (.int .i64 a) := by
  unfold RI at h
  split at h
  · simp at h; rw [h.1]
  · simp at h
  · cases h

theorem law9 : Keyed Uang.prog 9 := string_keyed Uang.underlying9

/-- Every key is a string. -/
theorem key_string (key : Value) (kl : Lit) (h : keyOf Uang.prog 9 key = some kl) : ∃ x : ByteArray, key = .string x := by
  cases key <;> simp [keyOf_string Uang.underlying9, mapKey, Uang.underlying9] at h
  exact ⟨_, rfl⟩

/-- A map that the call has made: its block, what it reads as, the pairs that it holds. -/
structure Mo where
  b : Nat
  D : DataW Unit
  Q : List (ByteArray × Int)

def Mo.val (m : Mo) : Value := .iface 54 (.map (some m.b))

/-- It lies there, with at most N entries. -/
def Mo.Ok (w : World) (N : Nat) (m : Mo) : Prop := w.ownsMap Uang.prog 9 RI m.b N m.D ∧ Mp.Holds m.D m.Q

theorem map_below {w w' : World} {b n : Nat} {D : DataW Unit} {B : Nat} (h : w.ownsMap Uang.prog 9 RI b n D) (hb : Below B w w') (hB : b < B) : w'.ownsMap Uang.prog 9 RI b n D := by
  obtain ⟨es, clock, h1, r⟩ := h
  exact ⟨es, clock, (hb.block b hB).trans h1, r⟩

theorem flat_succ {α β : Type} (f : α → List β) (l : List α) (k : Nat) (x : α) (h : l[k]? = some x) : (l.take (k + 1)).flatMap f = (l.take k).flatMap f ++ f x := by
  have hk := (List.getElem?_eq_some_iff.1 h).1
  have e := (List.getElem?_eq_some_iff.1 h).2
  rw [List.take_succ_eq_append_getElem hk, e, List.flatMap_append]; simp

set_option maxHeartbeats 1000000 in
set_option maxRecDepth 100000 in
theorem jpfMerge_any (a : Option Addr) (n cap : Nat) (ms : List Mo) (w : World) (hx : ms.length = n) (hs : Src w a (ms.map Mo.val)) (hok : ∀ m ∈ ms, m.Ok w 1048576) (hn : n ≤ 4096) :
    Calls Uang.prog 33 #[.slice a n cap] w fun e w' => ∃ M nn, e = .returned (.tuple #[.iface 54 (.map (some w.heap.size)), .nilIface]) ∧ w'.ownsMap Uang.prog 9 RI w.heap.size nn M ∧ Mp.Holds M (ms.flatMap (·.Q)) ∧ Below w.heap.size w w' := by
  have hmm := @run_makeMap Uang.prog
  go_enter Uang.func33, Uang.ntmps33
  go_wp2
  go_loopw [13] (fun i wr => ∃ (k nn : Nat) (M : DataW Unit), k ≤ n ∧ i = .int .i64 k ∧ wr.ownsMap Uang.prog 9 RI w.heap.size nn M ∧ nn ≤ 1048576 * k ∧ Mp.Holds M ((ms.take k).flatMap (·.Q)) ∧ Below w.heap.size w wr) (fun i _ => n - (intOf i).toNat)
  case atStart => exact ⟨0, 0, .map [], Nat.zero_le _, rfl, World.ownsMap_made _ _ _ _, by omega, Mp.holds_start, (Below.refl _ _).alloc (Nat.le_refl _) _⟩
  case round =>
    obtain ⟨k, nn, M, hk, rfl, hown, hnn, hM, hbel⟩ := hrel
    by_cases hlt : k < n
    · obtain ⟨b, off, m, hxe, hm, hcx⟩ := hs.at_ hbel (k := k) (by omega)
      cases hxe
      obtain ⟨mb, mD, mQ⟩ := m
      have hcx2 : wr.cell? ⟨b, off + k, none⟩ = some (.iface 54 (.map (some mb))) := hcx
      have hmo := hok _ (List.mem_of_getElem? hm)
      have hmlt : mb < w.heap.size := hmo.1.lt
      have hmown : wr.ownsMap Uang.prog 9 RI mb 1048576 mD := map_below hmo.1 hbel hmlt
      have hmH : Mp.Holds mD mQ := hmo.2
      have hFlt : w.heap.size < wr.heap.size := hown.lt
      have HQ : Hid ((ms.take (k + 1)).flatMap (·.Q) = (ms.take k).flatMap (·.Q) ++ mQ) := flat_succ _ ms k _ hm
      clear hcx hmo
      go_wp2_with (first
        | (at_range; refine wpList_range_own _ rfl _ 54 rfl 9 20 law9 Uang.underlying54 RI mb 1048576 mD rfl hmown ?_; intro w0 hrg0 hg0 hs0)
        | go_in)
      have hown0 := hown.kept hg0 (by simp)
      have hsz := hmown.size_le
      have hbel0 := hbel.grown hg0 hbel.size (fun j hj => by cases hj)
      clear hg0 hs0 hown hmown hcx2 hbel hs
      generalize wr.heap.size = r at *
      go_loopw [8] (fun _ wj => ∃ (left : Lit → Bool) (c n' : Nat) (M' : DataW Unit), wj.ranges Uang.prog 9 RI mb r 1048576 mD left c ∧ wj.ownsMap Uang.prog 9 RI w.heap.size n' M' ∧ n' + c ≤ nn + 1048576 ∧ Mp.Over M' M mD left ∧ Below w.heap.size w wj)
        (fun _ wj => wj.rangeLeft mb r)
      case atStart => exact ⟨_, _, nn, M, hrg0, hown0, by omega, Mp.over_start hM.1, hbel0⟩
      case round =>
        obtain ⟨left, c, n', M', hrg, hout, hnc, hO, hbj⟩ := hrel
        go_wp2_with (first
          | (at_next; refine wpList_next_ranges _ rfl _ rfl 9 law9 RI Value.string id key_string (fun v y _ => ⟨v, rfl⟩) mb r 1048576 mD left c rfl hrg ?_ ?_)
          | go_in)
        · intro hc0 hl0
          have HF : Hid (Mp.Holds M' ((ms.take (k + 1)).flatMap (·.Q))) := by
            show Mp.Holds M' ((ms.take (k + 1)).flatMap (·.Q))
            rw [HQ.out]; exact Mp.over_end hO hl0 hM hmH
          clear hl0 hO hM
          go_wp2
          go_roundw
          case rel => exact ⟨k + 1, n', M', by omega, by go_num, hout, by omega, HF.out, hbj⟩
          case measure => simp [intOf]; omega
        · intro x v kl d ps w1 c1 hkey hlk hv hat hrg1 hlt1 hg1 hs1 hen
          have hne : w.heap.size ≠ r := by omega
          have hout1 := hout.kept hg1 (by simpa using hne)
          go_wp2_with (first
            | (at_mapUpdate; refine wpList_mapUpdate_own _ rfl _ _ _ 54 rfl 9 20 law9 Uang.underlying54 RI w.heap.size n' M' rfl hout1 (by unfold maxLen; omega) _ _ kl rfl rfl hkey d ps hv ?_; intro w2 hout2 hg2; go_frame)
            | go_in)
          have hrg2 := hrg1.kept hg2 (fun e => by have := Option.some.inj e; omega) (fun e => by have := Option.some.inj e; omega)
          have hb1 := hbj.grown hg1 hbj.size (fun j hj => by cases hj; omega)
          have hb2 := hb1.grown hg2 hb1.size (fun j hj => by cases hj; exact Nat.le_refl _)
          go_roundw
          case rel => exact ⟨_, c1, n' + 1, _, hrg2, hout2, by omega, Mp.over_step hO (law9.key hkey) hat, hb2⟩
          case measure => rw [hrg2.left_eq, hrg.left_eq]; exact hlt1
    · obtain rfl : k = n := by omega
      have HM : Hid (Mp.Holds M (ms.flatMap (·.Q))) := by
        rw [List.take_of_length_le (by omega)] at hM; exact hM
      clear hM
      go_wp2
      go_ret2
      exact ⟨M, nn, rfl, hown, HM.out, hbel⟩
end Go.Proofs.Youanw
