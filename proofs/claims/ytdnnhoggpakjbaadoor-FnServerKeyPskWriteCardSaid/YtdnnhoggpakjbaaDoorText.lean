/-
  CONTRACTS OF SMALL SHARED FUNCTIONS of the thin package: text (bytes and an error as a string and whether there was none). For every input that its callers hand on.
-/
import Derived.Test.YtdnnhoggpakjbaaDoorMem
namespace Go.Proofs.YtdnnhoggpakjbaaDoor
set_option linter.unusedSimpArgs false
set_option linter.unusedVariables false
open Go.RowKit

theorem text_ok (b off n c : Nat) (l : List UInt8) (w : World) (hn : l.length = n) (hb : Bytes w b off l) :
    Calls Tryd.prog 12 #[.slice (some ⟨b, off, none⟩) n c, .nilIface] w fun e w' => e = .returned (.tuple #[.string ⟨l.toArray⟩, .bool true]) ∧ w = w' := by
  go_enter Tryd.func12, Tryd.ntmps12
  go_wp2_with (refine wpList_to_string _ rfl (.tmp 8) 26 9 5 rfl Tryd.underlying26 Tryd.underlying5 Tryd.underlying9 b off n c l rfl hn hb ?_)
  go_ret2
  exact ⟨rfl, rfl⟩

theorem text_err (v : Value) (t : TypeId) (a : Option Addr) (w : World) :
    Calls Tryd.prog 12 #[v, .iface t (.pointer a)] w fun e w' => e = .returned (.tuple #[.string ⟨#[]⟩, .bool false]) ∧ w = w' := by
  go_enter Tryd.func12, Tryd.ntmps12
  go_wp2
  go_ret2
  exact ⟨rfl, rfl⟩
end Go.Proofs.YtdnnhoggpakjbaaDoor
