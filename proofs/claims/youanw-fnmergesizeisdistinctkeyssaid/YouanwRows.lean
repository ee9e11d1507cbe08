/-
  No cell of these rows narrows 'for every input' (looked for: loops, veiled, ifaces, maps, wideKeys, modest, calm, conditions, laid).
  DERIVED. THE GIVEN ROWS OF THIS SEAT. 7 by the template 'for every input the law returns true; each argument reads behind the call as it read before'; 0 by the template 'total and deterministic' (their statements: YouanwTotals.lean).
  GIVEN WITH THE SEED: the statements are not yours to turn. If you find one false, say at which input.
  Laid BY PROGRAM, IN A SANDBOX (cutbox-rows.mjs): the forced cells as the released guide's own fill.sh prints them over the translation 4d670826e9d9f534… (all of the seat's roots in one cut). By AI agents, Wed Nov 11 2026. No macro, syntax, notation, axiom, sorry.
-/
import Derived.Test.YouanwChecked
import GoSem.Claim
import GoSem.ClaimJoined
import GoSem.ClaimMapViews
import Derived.JoinedTies
import Derived.KernelRfl
namespace Go.Proofs.Youanw
/- THE CELL 'sum', in the pinned program and in every row, IS THE sha256 OF THE DUMP (.gsa) THAT YouanwProg.lean LOADS. Nothing in Lean hashes anything: it is a label: what it is worth is what the hold of that sum in a sandbox is worth. -/
noncomputable def Uang.pinned : Pinned := { name := "youanw", sum := "4d670826e9d9f534552830ff5b8d5f1ef0c4c6b54fd96eacc3012a69b374fc3c", checked := Uang.checked }
namespace Rows
def none {H : Type} : Left H := { results := [], args := [] }

/-- 'zzlaws_root_b7.FnMergeLastWriterWins': WHATEVER THE INPUT: true; the input reads as it did. -/
def fnMergeLastWriterWinsSpec : ChangeSpec := { name := "fnMergeLastWriterWins", fn := fun _ => fun
  | [d1, d2, d3] => { results := [.lit (.bool true)], args := [d1, d2, d3] }
  | _ => none }
def fnMergeLastWriterWinsRow : OpenClaim := { program := "youanw", sum := "4d670826e9d9f534552830ff5b8d5f1ef0c4c6b54fd96eacc3012a69b374fc3c", func := "github.com/jmespath/go-jmespath/zzlaws_root_b7.FnMergeLastWriterWins", spec := "fnMergeLastWriterWins", apart := false }
def FnMergeLastWriterWinsSaid : Prop := fnMergeLastWriterWinsRow.holds Uang.pinned (OpenSpec.ofChange fnMergeLastWriterWinsSpec)

/-- ITS FALSE NEIGHBOUR: 'it returns false'. Refute it at one input. -/
def fnMergeLastWriterWinsWrong : ChangeSpec := { name := "fnMergeLastWriterWins", fn := fun _ => fun
  | [d1, d2, d3] => { results := [.lit (.bool false)], args := [d1, d2, d3] }
  | _ => none }
def FnMergeLastWriterWinsWrongFalsely : Prop := fnMergeLastWriterWinsRow.holds Uang.pinned (OpenSpec.ofChange fnMergeLastWriterWinsWrong)

/-- 'zzlaws_root_b7.FnMergeSizeIsDistinctKeys': WHATEVER THE INPUT: true; the input reads as it did. -/
def fnMergeSizeIsDistinctKeysSpec : ChangeSpec := { name := "fnMergeSizeIsDistinctKeys", fn := fun _ => fun
  | [d1, d2] => { results := [.lit (.bool true)], args := [d1, d2] }
  | _ => none }
def fnMergeSizeIsDistinctKeysRow : OpenClaim := { program := "youanw", sum := "4d670826e9d9f534552830ff5b8d5f1ef0c4c6b54fd96eacc3012a69b374fc3c", func := "github.com/jmespath/go-jmespath/zzlaws_root_b7.FnMergeSizeIsDistinctKeys", spec := "fnMergeSizeIsDistinctKeys", apart := false }
def FnMergeSizeIsDistinctKeysSaid : Prop := fnMergeSizeIsDistinctKeysRow.holds Uang.pinned (OpenSpec.ofChange fnMergeSizeIsDistinctKeysSpec)

/-- ITS FALSE NEIGHBOUR: 'it returns false'. Refute it at one input. -/
def fnMergeSizeIsDistinctKeysWrong : ChangeSpec := { name := "fnMergeSizeIsDistinctKeys", fn := fun _ => fun
  | [d1, d2] => { results := [.lit (.bool false)], args := [d1, d2] }
  | _ => none }
def FnMergeSizeIsDistinctKeysWrongFalsely : Prop := fnMergeSizeIsDistinctKeysRow.holds Uang.pinned (OpenSpec.ofChange fnMergeSizeIsDistinctKeysWrong)

/-- 'zzlaws_root_b7.FnSumExactOnIntegers': WHATEVER THE INPUT: true; the input reads as it did. -/
def fnSumExactOnIntegersSpec : ChangeSpec := { name := "fnSumExactOnIntegers", fn := fun _ => fun
  | [d] => { results := [.lit (.bool true)], args := [d] }
  | _ => none }
def fnSumExactOnIntegersRow : OpenClaim := { program := "youanw", sum := "4d670826e9d9f534552830ff5b8d5f1ef0c4c6b54fd96eacc3012a69b374fc3c", func := "github.com/jmespath/go-jmespath/zzlaws_root_b7.FnSumExactOnIntegers", spec := "fnSumExactOnIntegers", apart := false }
def FnSumExactOnIntegersSaid : Prop := fnSumExactOnIntegersRow.holds Uang.pinned (OpenSpec.ofChange fnSumExactOnIntegersSpec)

/-- ITS FALSE NEIGHBOUR: 'it returns false'. Refute it at one input. -/
def fnSumExactOnIntegersWrong : ChangeSpec := { name := "fnSumExactOnIntegers", fn := fun _ => fun
  | [d] => { results := [.lit (.bool false)], args := [d] }
  | _ => none }
def FnSumExactOnIntegersWrongFalsely : Prop := fnSumExactOnIntegersRow.holds Uang.pinned (OpenSpec.ofChange fnSumExactOnIntegersWrong)

/-- 'zzlaws_root_b7.FnSumMonotone': WHATEVER THE INPUT: true; the input reads as it did. -/
def fnSumMonotoneSpec : ChangeSpec := { name := "fnSumMonotone", fn := fun _ => fun
  | [d1, d2] => { results := [.lit (.bool true)], args := [d1, d2] }
  | _ => none }
def fnSumMonotoneRow : OpenClaim := { program := "youanw", sum := "4d670826e9d9f534552830ff5b8d5f1ef0c4c6b54fd96eacc3012a69b374fc3c", func := "github.com/jmespath/go-jmespath/zzlaws_root_b7.FnSumMonotone", spec := "fnSumMonotone", apart := false }
def FnSumMonotoneSaid : Prop := fnSumMonotoneRow.holds Uang.pinned (OpenSpec.ofChange fnSumMonotoneSpec)

/-- ITS FALSE NEIGHBOUR: 'it returns false'. Refute it at one input. -/
def fnSumMonotoneWrong : ChangeSpec := { name := "fnSumMonotone", fn := fun _ => fun
  | [d1, d2] => { results := [.lit (.bool false)], args := [d1, d2] }
  | _ => none }
def FnSumMonotoneWrongFalsely : Prop := fnSumMonotoneRow.holds Uang.pinned (OpenSpec.ofChange fnSumMonotoneWrong)

/-- 'zzlaws_root_b7.FnMinNumbersFirstMinimum': WHATEVER THE INPUT: true; the input reads as it did. -/
def fnMinNumbersFirstMinimumSpec : ChangeSpec := { name := "fnMinNumbersFirstMinimum", fn := fun _ => fun
  | [d] => { results := [.lit (.bool true)], args := [d] }
  | _ => none }
def fnMinNumbersFirstMinimumRow : OpenClaim := { program := "youanw", sum := "4d670826e9d9f534552830ff5b8d5f1ef0c4c6b54fd96eacc3012a69b374fc3c", func := "github.com/jmespath/go-jmespath/zzlaws_root_b7.FnMinNumbersFirstMinimum", spec := "fnMinNumbersFirstMinimum", apart := false }
def FnMinNumbersFirstMinimumSaid : Prop := fnMinNumbersFirstMinimumRow.holds Uang.pinned (OpenSpec.ofChange fnMinNumbersFirstMinimumSpec)

/-- ITS FALSE NEIGHBOUR: 'it returns false'. Refute it at one input. -/
def fnMinNumbersFirstMinimumWrong : ChangeSpec := { name := "fnMinNumbersFirstMinimum", fn := fun _ => fun
  | [d] => { results := [.lit (.bool false)], args := [d] }
  | _ => none }
def FnMinNumbersFirstMinimumWrongFalsely : Prop := fnMinNumbersFirstMinimumRow.holds Uang.pinned (OpenSpec.ofChange fnMinNumbersFirstMinimumWrong)

/-- 'zzlaws_root_b7.FnMinStringsLeast': WHATEVER THE INPUT: true; the input reads as it did. -/
def fnMinStringsLeastSpec : ChangeSpec := { name := "fnMinStringsLeast", fn := fun _ => fun
  | [d] => { results := [.lit (.bool true)], args := [d] }
  | _ => none }
def fnMinStringsLeastRow : OpenClaim := { program := "youanw", sum := "4d670826e9d9f534552830ff5b8d5f1ef0c4c6b54fd96eacc3012a69b374fc3c", func := "github.com/jmespath/go-jmespath/zzlaws_root_b7.FnMinStringsLeast", spec := "fnMinStringsLeast", apart := false }
def FnMinStringsLeastSaid : Prop := fnMinStringsLeastRow.holds Uang.pinned (OpenSpec.ofChange fnMinStringsLeastSpec)

/-- ITS FALSE NEIGHBOUR: 'it returns false'. Refute it at one input. -/
def fnMinStringsLeastWrong : ChangeSpec := { name := "fnMinStringsLeast", fn := fun _ => fun
  | [d] => { results := [.lit (.bool false)], args := [d] }
  | _ => none }
def FnMinStringsLeastWrongFalsely : Prop := fnMinStringsLeastRow.holds Uang.pinned (OpenSpec.ofChange fnMinStringsLeastWrong)

/-- 'zzlaws_root_b7.FnMinStringsOfConcat': WHATEVER THE INPUT: true; the input reads as it did. -/
def fnMinStringsOfConcatSpec : ChangeSpec := { name := "fnMinStringsOfConcat", fn := fun _ => fun
  | [d1, d2] => { results := [.lit (.bool true)], args := [d1, d2] }
  | _ => none }
def fnMinStringsOfConcatRow : OpenClaim := { program := "youanw", sum := "4d670826e9d9f534552830ff5b8d5f1ef0c4c6b54fd96eacc3012a69b374fc3c", func := "github.com/jmespath/go-jmespath/zzlaws_root_b7.FnMinStringsOfConcat", spec := "fnMinStringsOfConcat", apart := false }
def FnMinStringsOfConcatSaid : Prop := fnMinStringsOfConcatRow.holds Uang.pinned (OpenSpec.ofChange fnMinStringsOfConcatSpec)

/-- ITS FALSE NEIGHBOUR: 'it returns false'. Refute it at one input. -/
def fnMinStringsOfConcatWrong : ChangeSpec := { name := "fnMinStringsOfConcat", fn := fun _ => fun
  | [d1, d2] => { results := [.lit (.bool false)], args := [d1, d2] }
  | _ => none }
def FnMinStringsOfConcatWrongFalsely : Prop := fnMinStringsOfConcatRow.holds Uang.pinned (OpenSpec.ofChange fnMinStringsOfConcatWrong)

end Rows
end Go.Proofs.Youanw
