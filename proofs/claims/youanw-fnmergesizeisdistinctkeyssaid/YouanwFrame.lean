/-
  TWO CLOSED FACTS THAT EVERY ROW's FRAME ASKS.
-/
import Derived.Test.YouanwOpen
namespace Go.Proofs.Youanw
theorem ownK : ownKnob Uang.prog.godebug = none := by kernel_rfl
theorem laidK : laidOutB Uang.prog = true := by kernel_rfl
end Go.Proofs.Youanw
