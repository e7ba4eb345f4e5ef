/-
  CLOSED FACTS OF THIS SEAT on its sentinel errors: the one type of that name; the heap that the door's own run leaves. No condition.
-/
import Derived.Test.YtdnnhoggpakjbaaDoorBase
namespace Go.Proofs.YtdnnhoggpakjbaaDoor
set_option linter.unusedSimpArgs false
set_option linter.unusedVariables false
open Go.ChangeShapes Go.WideShapes Go.RowKit
theorem own : ownKnob Tryd.prog.godebug = none := by kernel_rfl
theorem laidOut : laidOutB Tryd.prog = true := by kernel_rfl
theorem star : "*" ++ "errors.errorString" = "*errors.errorString" := by decide
theorem rowErr (u : TypeId) (h : Tryd.prog.typeName? 3 u = some "*errors.errorString") : u = 77 :=
  typeName_ptr_named (nm := "errors.errorString") (by rw [star]; kernel_rfl) (by kernel_rfl) (by decide) u (by rw [star]; exact h)
end Go.Proofs.YtdnnhoggpakjbaaDoor
