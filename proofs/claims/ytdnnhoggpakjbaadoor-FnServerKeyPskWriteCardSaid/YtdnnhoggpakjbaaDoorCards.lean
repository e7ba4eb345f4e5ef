/-
  DERIVED. GIVEN WITH THE SEED: THE CARDS: each row of YtdnnhoggpakjbaaDoorRows.lean that lists a variable, with what it lists TIED to the program's text (the seventh form; the later family's looks); each row that meets fmt, with fmt's text TOLD by the authors' own Lean function (tested against real Go, not proved from fmt's source: count such statements apart). THE CARD IS WHAT COUNTS. Prove the row's statement (the work); the ties are given (YtdnnhoggpakjbaaDoorTie.lean); close each card by the builder's one call (the guide's Derived/Test/ToyasCard.lean, 'card_holds'). Laid BY PROGRAM, IN A SANDBOX (cutbox-door.mjs). By AI agents, Wed Nov 11 2026. No macro, syntax, notation, axiom, sorry.
-/
import Derived.Test.YtdnnhoggpakjbaaDoorRows
import GoSem.ClaimSeven
namespace Go.Proofs.YtdnnhoggpakjbaaDoor
namespace Rows

/-- THE TIED CARD OF 'laws.FnClientKeyBothWrite'. -/
def fnClientKeyBothWriteCard : Claim7 := { stood := { row := fnClientKeyBothWriteRow, standIns := [], harness := (true, "90664dd9823c385f8b5bd7beaf8944303abe354461e566dd276f4b380ebde043"), looks := false }, kinds := [], alts := [], laidByText := true, laidKinds := [.sentinel, .sentinel], laidTests := true, laidLooks := .later }
def FnClientKeyBothWriteCardSaid : Prop := Claim7.holds Tryd.pinned (.plain (OpenSpec.ofChange fnClientKeyBothWriteSpec)) fnClientKeyBothWriteCard

/-- THE TIED CARD OF 'laws.FnServerKeyPskWrite'. -/
def fnServerKeyPskWriteCard : Claim7 := { stood := { row := fnServerKeyPskWriteRow, standIns := [], harness := (true, "90664dd9823c385f8b5bd7beaf8944303abe354461e566dd276f4b380ebde043"), looks := false }, kinds := [], alts := [], laidByText := true, laidKinds := [.sentinel], laidTests := true, laidLooks := .later }
def FnServerKeyPskWriteCardSaid : Prop := Claim7.holds Tryd.pinned (.plain (OpenSpec.ofChange fnServerKeyPskWriteSpec)) fnServerKeyPskWriteCard

/-- THE TIED CARD OF 'laws.FnSuitesBack'. -/
def fnSuitesBackCard : Claim7 := { stood := { row := fnSuitesBackRow, standIns := [], harness := (true, "90664dd9823c385f8b5bd7beaf8944303abe354461e566dd276f4b380ebde043"), looks := false }, kinds := [], alts := [], laidByText := true, laidKinds := [.sentinel], laidTests := true, laidLooks := .later }
def FnSuitesBackCardSaid : Prop := Claim7.holds Tryd.pinned (.plain (OpenSpec.ofChange fnSuitesBackSpec)) fnSuitesBackCard

/-- THE SECOND FORM's CARD OF 'laws.FnClientKeyBothWrite'. -/
def fnClientKeyBothWriteUptoCard : Claim7 := { stood := { row := fnClientKeyBothWriteUptoRow, standIns := [], harness := (true, "90664dd9823c385f8b5bd7beaf8944303abe354461e566dd276f4b380ebde043"), looks := false }, kinds := [], alts := [], laidByText := true, laidKinds := [.sentinel, .sentinel], laidTests := true, laidLooks := .later }
def FnClientKeyBothWriteUptoCardSaid : Prop := Claim7.holds Tryd.pinned (.plain (OpenSpec.upto fnClientKeyBothWriteSpec)) fnClientKeyBothWriteUptoCard

/-- THE SECOND FORM's CARD OF 'laws.FnServerKeyPskWrite'. -/
def fnServerKeyPskWriteUptoCard : Claim7 := { stood := { row := fnServerKeyPskWriteUptoRow, standIns := [], harness := (true, "90664dd9823c385f8b5bd7beaf8944303abe354461e566dd276f4b380ebde043"), looks := false }, kinds := [], alts := [], laidByText := true, laidKinds := [.sentinel], laidTests := true, laidLooks := .later }
def FnServerKeyPskWriteUptoCardSaid : Prop := Claim7.holds Tryd.pinned (.plain (OpenSpec.upto fnServerKeyPskWriteSpec)) fnServerKeyPskWriteUptoCard

/-- THE SECOND FORM's CARD OF 'laws.FnSuitesBack'. -/
def fnSuitesBackUptoCard : Claim7 := { stood := { row := fnSuitesBackUptoRow, standIns := [], harness := (true, "90664dd9823c385f8b5bd7beaf8944303abe354461e566dd276f4b380ebde043"), looks := false }, kinds := [], alts := [], laidByText := true, laidKinds := [.sentinel], laidTests := true, laidLooks := .later }
def FnSuitesBackUptoCardSaid : Prop := Claim7.holds Tryd.pinned (.plain (OpenSpec.upto fnSuitesBackSpec)) fnSuitesBackUptoCard
end Rows
end Go.Proofs.YtdnnhoggpakjbaaDoor
