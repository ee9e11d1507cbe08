/-
  'Rows.FnSumExactOnIntegersSaid' PROVED: out of the walk (YouanwSumExact) by the frame that the kit's tool writes.
-/
import Derived.Test.YouanwSumExact
import Derived.Test.YouanwOpen
namespace Go.Proofs.Youanw
open Go.ChangeShapes Go.WideShapes Go.ChangeAt Go.RowKit

theorem own : ownKnob Uang.prog.godebug = none := by kernel_rfl
theorem laidOut : laidOutB Uang.prog = true := by kernel_rfl

theorem sumExact_any (a : Option Addr) (n cap : Nat) (l : List Int) (w : World) (ha : a = none → n = 0 ∧ cap = 0) (hx : l.length = n) (hs : Src w a (l.map (Value.int .i64))) :
    Calls Uang.prog 5 #[.slice a n cap] w fun e w' => e = .returned (.bool true) ∧ Below w.heap.size w w' := by
  by_cases h : n ≤ 65536
  · exact sumExact_small a n cap l w ha hx hs h
  · exact sumExact_big a n cap w (by omega)

set_option maxRecDepth 100000 in
theorem sumExact_lifted (os : Os) (started : os.Started) (H : Type) (enc : TypeId × Value → H) :
    ReturnsInHanded {} Uang.checked os 5 .any (Rows.fnSumExactOnIntegersSpec.pre6 enc Uang.prog Uang.f5 Rows.fnSumExactOnIntegersRow.domain false) (Rows.fnSumExactOnIntegersSpec.post enc Uang.prog Uang.f5 false true false false) := by
  refine returnsInHanded_of_change (C := Uang.checked) own started (by kernel_rfl) Uang.func5
    (ChangeSpec.witness6 (enc := enc) (C := Uang.checked) false ⟨#[], #[.slice none 0 0], []⟩ 8 (by kernel_rfl) (by kernel_rfl) (by kernel_rfl) (by kernel_rfl)) ?_
  intro W base args ds gs before hval0 hW hcnd _
  have hval : ∀ (j : Nat) t v, Uang.f5.params[j]? = some t → args[j]? = some v → Value.okWide Uang.prog W .any base t v := hval0
  have hW' := hW
  obtain ⟨p, q, hA0, hV, rfl, hfz, hnd⟩ := hW
  have hA : DataW.TrodAll enc Uang.prog W 0 (fun _ => true) true Uang.f5.params.toList args.toList ds p := hA0
  rw [Uang.params5] at hA hval
  obtain ⟨v0, vs0, d0, ds0, p0, q0, hargs, rfl, rfl, h0, r0⟩ := trodAll_cons hA
  obtain ⟨rfl, rfl, rfl⟩ := trodAll_nil r0
  obtain rfl : args = #[v0] := by cases args; simp_all
  obtain ⟨rfl, rfl⟩ := trodVars_none hV
  obtain ⟨a0, len0, cap0, rfl⟩ := okWide_slice Uang.underlying30 (hval 0 30 v0 rfl rfl)
  have k0 := h0
  have lt0 : ∀ x ∈ p0, x.block < W.heap.size := by obtain ⟨m, hm⟩ := k0; exact DataW.trod_lt m _ _ _ hm
  obtain ⟨fuel, hf⟩ := h0
  obtain ⟨ha, _, _, l, hl, hs, _⟩ := open_src (Value.int .i64) (fun u => (Lit.int .i64 u).wf = true) Uang.underlying30 (by kernel_rfl) (el_int Uang.underlying2) hf
  clear hA0 hval0
  refine (sumExact_any a0 len0 cap0 l W ha hl hs).mono fun e W' ⟨he, bel⟩ => ?_
  subst he
  exact ⟨_, rfl, _, _, _, [], _, [], hW', trodAll_mk1 (shut_bool Uang.underlying4 _), (trodAll_mk1 (Below.trod laidOut (by kernel_rfl) (of_decide_eq_true (by kernel_rfl)) k0 bel lt0)), rfl, bel.frame _, fun h => by cases h⟩

theorem sumExact_over : Rows.fnSumExactOnIntegersRow.holds Uang.pinned (OpenSpec.ofChange Rows.fnSumExactOnIntegersSpec) :=
  OpenClaim.holds_of_wide 5 Uang.f5 rfl rfl rfl rfl rfl rfl rfl ⟨rfl, rfl, rfl, rfl, rfl⟩ rfl rfl rfl rfl rfl (by kernel_rfl) Uang.func5 (by kernel_rfl)
    (of_decide_eq_true (by kernel_rfl)) (by unfold Func.isWrapper; first | (rw [if_pos (by decide +kernel)]; kernel_rfl) | (rw [if_neg (by decide +kernel)]; exact ⟨rfl, rfl⟩))
    (fun os started H enc _ => sumExact_lifted os started H enc)

/-- ████ THE STATEMENT ████ -/
theorem fnSumExactOnIntegers_proved : Rows.FnSumExactOnIntegersSaid := sumExact_over
#print axioms fnSumExactOnIntegers_proved
end Go.Proofs.Youanw
