/-
  'Rows.FnSumMonotoneSaid' PROVED: out of the walk (YouanwSumMono) by the frame that the kit's tool writes, at two slices of floats.
-/
import Derived.Test.YouanwSumMono
import Derived.Test.YouanwFrame
namespace Go.Proofs.Youanw
open Go.ChangeShapes Go.WideShapes Go.ChangeAt Go.RowKit

theorem sumMono_any (a b : Option Addr) (n c m d : Nat) (la lb : List Nat) (w : World) (ha : a = none → n = 0 ∧ c = 0) (hb : b = none → m = 0 ∧ d = 0) (hla : la.length = n) (hlb : lb.length = m)
    (hsa : Src w a (la.map (Value.float .f64))) (hsb : Src w b (lb.map (Value.float .f64))) :
    Calls Uang.prog 6 #[.slice a n c, .slice b m d] w fun e w' => e = .returned (.bool true) ∧ Below w.heap.size w w' := by
  by_cases h : 65536 < n ∨ 65536 < m ∨ n ≠ m
  · exact sumMono_off a b n c m d w h
  · obtain rfl : n = m := by omega
    exact sumMono_same a b n c d la lb w ha hb hla hlb hsa hsb (by omega)

set_option maxRecDepth 100000 in
theorem sumMono_lifted (os : Os) (started : os.Started) (H : Type) (enc : TypeId × Value → H) :
    ReturnsInHanded {} Uang.checked os 6 .any (Rows.fnSumMonotoneSpec.pre6 enc Uang.prog Uang.f6 Rows.fnSumMonotoneRow.domain false) (Rows.fnSumMonotoneSpec.post enc Uang.prog Uang.f6 false true false false) := by
  refine returnsInHanded_of_change (C := Uang.checked) ownK started (by kernel_rfl) Uang.func6
    (ChangeSpec.witness6 (enc := enc) (C := Uang.checked) false ⟨#[], #[.slice none 0 0, .slice none 0 0], []⟩ 8 (by kernel_rfl) (by kernel_rfl) (by kernel_rfl) (by kernel_rfl)) ?_
  intro W base args ds gs before hval0 hW hcnd _
  have hval : ∀ (j : Nat) t v, Uang.f6.params[j]? = some t → args[j]? = some v → Value.okWide Uang.prog W .any base t v := hval0
  have hW' := hW
  obtain ⟨p, q, hA0, hV, rfl, hfz, hnd⟩ := hW
  have hA : DataW.TrodAll enc Uang.prog W 0 (fun _ => true) true Uang.f6.params.toList args.toList ds p := hA0
  rw [Uang.params6] at hA hval
  obtain ⟨v0, vs0, d0, ds0, p0, q0, hargs, rfl, rfl, h0, r0⟩ := trodAll_cons hA
  obtain ⟨v1, vs1, d1, ds1, p1, q1, rfl, rfl, rfl, h1, r1⟩ := trodAll_cons r0
  obtain ⟨rfl, rfl, rfl⟩ := trodAll_nil r1
  obtain rfl : args = #[v0, v1] := by cases args; simp_all
  obtain ⟨rfl, rfl⟩ := trodVars_none hV
  obtain ⟨a0, len0, cap0, rfl⟩ := okWide_slice Uang.underlying36 (hval 0 36 v0 rfl rfl)
  obtain ⟨a1, len1, cap1, rfl⟩ := okWide_slice Uang.underlying36 (hval 1 36 v1 rfl rfl)
  have k0 := h0
  have k1 := h1
  have lt0 : ∀ x ∈ p0, x.block < W.heap.size := by obtain ⟨m, hm⟩ := k0; exact DataW.trod_lt m _ _ _ hm
  have lt1 : ∀ x ∈ p1, x.block < W.heap.size := by obtain ⟨m, hm⟩ := k1; exact DataW.trod_lt m _ _ _ hm
  obtain ⟨fuel, hf⟩ := h0
  obtain ⟨fuel1, hf1⟩ := h1
  obtain ⟨ha, _, _, l, hl, hs, _⟩ := open_src (Value.float .f64) (fun u => (Lit.float .f64 u).wf = true) Uang.underlying36 (by kernel_rfl) (el_float Uang.underlying37) hf
  obtain ⟨ha1, _, _, l1, hl1, hs1, _⟩ := open_src (Value.float .f64) (fun u => (Lit.float .f64 u).wf = true) Uang.underlying36 (by kernel_rfl) (el_float Uang.underlying37) hf1
  clear hA0 hval0
  refine (sumMono_any a0 a1 len0 cap0 len1 cap1 l l1 W ha ha1 hl hl1 hs hs1).mono fun e W' ⟨he, bel⟩ => ?_
  subst he
  exact ⟨_, rfl, _, _, _, [], _, [], hW', trodAll_mk1 (shut_bool Uang.underlying4 _), (trodAll_mk2 (Below.trod laidK (by kernel_rfl) (of_decide_eq_true (by kernel_rfl)) k0 bel lt0) (Below.trod laidK (by kernel_rfl) (of_decide_eq_true (by kernel_rfl)) k1 bel lt1)), rfl, bel.frame _, fun h => by cases h⟩

theorem sumMono_over : Rows.fnSumMonotoneRow.holds Uang.pinned (OpenSpec.ofChange Rows.fnSumMonotoneSpec) :=
  OpenClaim.holds_of_wide 6 Uang.f6 rfl rfl rfl rfl rfl rfl rfl ⟨rfl, rfl, rfl, rfl, rfl⟩ rfl rfl rfl rfl rfl (by kernel_rfl) Uang.func6 (by kernel_rfl)
    (of_decide_eq_true (by kernel_rfl)) (by unfold Func.isWrapper; first | (rw [if_pos (by decide +kernel)]; kernel_rfl) | (rw [if_neg (by decide +kernel)]; exact ⟨rfl, rfl⟩))
    (fun os started H enc _ => sumMono_lifted os started H enc)

/-- ████ THE STATEMENT ████ -/
theorem fnSumMonotone_proved : Rows.FnSumMonotoneSaid := sumMono_over
#print axioms fnSumMonotone_proved
end Go.Proofs.Youanw
