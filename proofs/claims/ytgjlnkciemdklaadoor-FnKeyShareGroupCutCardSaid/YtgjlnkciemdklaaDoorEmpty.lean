/-
  CONTRACT of String.Empty.
-/
import Derived.Test.YtgjlnkciemdklaaDoorRead
namespace Go.Proofs.YtgjlnkciemdklaaDoor
open Go.RowKit
set_option linter.unusedVariables false
set_option linter.unusedSimpArgs false
theorem empty_yes (a : Option Addr) (c : Nat) (w : World) : Calls Tryd.prog 87 #[.slice a 0 c] w fun e w' => e = .returned (.bool true) ∧ w = w' := by
  go_enter Tryd.func87, Tryd.ntmps87
  go_wp2
  go_ret
  exact ⟨rfl, rfl⟩
theorem empty_no (a : Option Addr) (n c : Nat) (hn : (n : Int) ≠ 0) (w : World) : Calls Tryd.prog 87 #[.slice a n c] w fun e w' => e = .returned (.bool false) ∧ w = w' := by
  have hn' : ¬ n = 0 := by omega
  go_enter Tryd.func87, Tryd.ntmps87
  go_wp2
  go_ret
  refine ⟨?_, rfl⟩
  first | rfl | simp [hn']
end Go.Proofs.YtgjlnkciemdklaaDoor
