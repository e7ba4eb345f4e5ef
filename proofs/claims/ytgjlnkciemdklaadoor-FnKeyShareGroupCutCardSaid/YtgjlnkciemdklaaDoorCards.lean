/-
  DERIVED. GIVEN WITH THE SEED: THE CARDS: each row of YtgjlnkciemdklaaDoorRows.lean that lists a variable, with what it lists TIED to the program's text (the seventh form; the later family's looks); each row that meets fmt, with fmt's text TOLD by the authors' own Lean function (tested against real Go, not proved from fmt's source: count such statements apart). THE CARD IS WHAT COUNTS. Prove the row's statement (the work); the ties are given (YtgjlnkciemdklaaDoorTie.lean); close each card by the builder's one call (the guide's Derived/Test/ToyasCard.lean, 'card_holds'). Laid BY PROGRAM, IN A SANDBOX (cutbox-door.mjs). By AI agents, Wed Nov 11 2026. No macro, syntax, notation, axiom, sorry.
-/
import Derived.Test.YtgjlnkciemdklaaDoorRows
import GoSem.ClaimSeven
namespace Go.Proofs.YtgjlnkciemdklaaDoor
namespace Rows

/-- THE TIED CARD OF 'laws.FnInnerBack'. -/
def fnInnerBackCard : Claim7 := { stood := { row := fnInnerBackRow, standIns := [], harness := (true, "c2f885eee8dd27f2fa154ae45416272b54063df99ed5b3744e605e6f1b9bbde1"), looks := false }, kinds := [], alts := [], laidByText := true, laidKinds := [.sentinel], laidTests := true, laidLooks := .later }
def FnInnerBackCardSaid : Prop := Claim7.holds Tryd.pinned (.plain (OpenSpec.ofChange fnInnerBackSpec)) fnInnerBackCard

/-- THE TIED CARD OF 'laws.FnEarlyDataCut'. -/
def fnEarlyDataCutCard : Claim7 := { stood := { row := fnEarlyDataCutRow, standIns := [], harness := (true, "c2f885eee8dd27f2fa154ae45416272b54063df99ed5b3744e605e6f1b9bbde1"), looks := false }, kinds := [], alts := [], laidByText := true, laidKinds := [.sentinel, .sentinel, .sentinel], laidTests := true, laidLooks := .later }
def FnEarlyDataCutCardSaid : Prop := Claim7.holds Tryd.pinned (.plain (OpenSpec.ofChange fnEarlyDataCutSpec)) fnEarlyDataCutCard

/-- THE TIED CARD OF 'laws.FnConnectionIDCut'. -/
def fnConnectionIDCutCard : Claim7 := { stood := { row := fnConnectionIDCutRow, standIns := [], harness := (true, "c2f885eee8dd27f2fa154ae45416272b54063df99ed5b3744e605e6f1b9bbde1"), looks := false }, kinds := [], alts := [], laidByText := true, laidKinds := [.sentinel, .sentinel, .sentinel, .sentinel], laidTests := true, laidLooks := .later }
def FnConnectionIDCutCardSaid : Prop := Claim7.holds Tryd.pinned (.plain (OpenSpec.ofChange fnConnectionIDCutSpec)) fnConnectionIDCutCard

/-- THE TIED CARD OF 'laws.FnOIDFiltersBack'. -/
def fnOIDFiltersBackCard : Claim7 := { stood := { row := fnOIDFiltersBackRow, standIns := [], harness := (true, "c2f885eee8dd27f2fa154ae45416272b54063df99ed5b3744e605e6f1b9bbde1"), looks := false }, kinds := [], alts := [], laidByText := true, laidKinds := [.sentinel, .sentinel, .sentinel, .sentinel, .sentinel], laidTests := true, laidLooks := .later }
def FnOIDFiltersBackCardSaid : Prop := Claim7.holds Tryd.pinned (.plain (OpenSpec.ofChange fnOIDFiltersBackSpec)) fnOIDFiltersBackCard

/-- THE TIED CARD OF 'laws.FnHeaderRead'. -/
def fnHeaderReadCard : Claim7 := { stood := { row := fnHeaderReadRow, standIns := [], harness := (true, "c2f885eee8dd27f2fa154ae45416272b54063df99ed5b3744e605e6f1b9bbde1"), looks := false }, kinds := [], alts := [], laidByText := true, laidKinds := [.data, .data, .sentinel, .sentinel, .sentinel], laidTests := true, laidLooks := .later }
def FnHeaderReadCardSaid : Prop := Claim7.holds Tryd.pinned (.plain (OpenSpec.ofChange fnHeaderReadSpec)) fnHeaderReadCard

/-- THE TIED CARD OF 'laws.FnServerNameCut'. -/
def fnServerNameCutCard : Claim7 := { stood := { row := fnServerNameCutRow, standIns := [], harness := (true, "c2f885eee8dd27f2fa154ae45416272b54063df99ed5b3744e605e6f1b9bbde1"), looks := false }, kinds := [], alts := [], laidByText := true, laidKinds := [.sentinel, .sentinel, .sentinel, .sentinel], laidTests := true, laidLooks := .later }
def FnServerNameCutCardSaid : Prop := Claim7.holds Tryd.pinned (.plain (OpenSpec.ofChange fnServerNameCutSpec)) fnServerNameCutCard

/-- THE TIED CARD OF 'laws.FnServerNameRefused'. -/
def fnServerNameRefusedCard : Claim7 := { stood := { row := fnServerNameRefusedRow, standIns := [], harness := (true, "c2f885eee8dd27f2fa154ae45416272b54063df99ed5b3744e605e6f1b9bbde1"), looks := false }, kinds := [], alts := [], laidByText := true, laidKinds := [.sentinel, .sentinel, .sentinel, .sentinel], laidTests := true, laidLooks := .later }
def FnServerNameRefusedCardSaid : Prop := Claim7.holds Tryd.pinned (.plain (OpenSpec.ofChange fnServerNameRefusedSpec)) fnServerNameRefusedCard

/-- THE TIED CARD OF 'laws.FnPreSharedKeySelectedBack'. -/
def fnPreSharedKeySelectedBackCard : Claim7 := { stood := { row := fnPreSharedKeySelectedBackRow, standIns := [], harness := (true, "c2f885eee8dd27f2fa154ae45416272b54063df99ed5b3744e605e6f1b9bbde1"), looks := false }, kinds := [], alts := [], laidByText := true, laidKinds := [.sentinel, .sentinel, .sentinel, .sentinel], laidTests := true, laidLooks := .later }
def FnPreSharedKeySelectedBackCardSaid : Prop := Claim7.holds Tryd.pinned (.plain (OpenSpec.ofChange fnPreSharedKeySelectedBackSpec)) fnPreSharedKeySelectedBackCard

/-- THE TIED CARD OF 'laws.FnKeyShareGroupCut'. -/
def fnKeyShareGroupCutCard : Claim7 := { stood := { row := fnKeyShareGroupCutRow, standIns := [], harness := (true, "c2f885eee8dd27f2fa154ae45416272b54063df99ed5b3744e605e6f1b9bbde1"), looks := false }, kinds := [], alts := [], laidByText := true, laidKinds := [.sentinel, .sentinel, .sentinel, .sentinel], laidTests := true, laidLooks := .later }
def FnKeyShareGroupCutCardSaid : Prop := Claim7.holds Tryd.pinned (.plain (OpenSpec.ofChange fnKeyShareGroupCutSpec)) fnKeyShareGroupCutCard

/-- THE TIED CARD OF 'laws.FnKeyShareServerBack'. -/
def fnKeyShareServerBackCard : Claim7 := { stood := { row := fnKeyShareServerBackRow, standIns := [], harness := (true, "c2f885eee8dd27f2fa154ae45416272b54063df99ed5b3744e605e6f1b9bbde1"), looks := false }, kinds := [], alts := [], laidByText := true, laidKinds := [.sentinel, .sentinel, .sentinel, .sentinel], laidTests := true, laidLooks := .later }
def FnKeyShareServerBackCardSaid : Prop := Claim7.holds Tryd.pinned (.plain (OpenSpec.ofChange fnKeyShareServerBackSpec)) fnKeyShareServerBackCard

/-- THE TIED CARD OF 'laws.FnSignatureAlgorithmsBack'. -/
def fnSignatureAlgorithmsBackCard : Claim7 := { stood := { row := fnSignatureAlgorithmsBackRow, standIns := [], harness := (true, "c2f885eee8dd27f2fa154ae45416272b54063df99ed5b3744e605e6f1b9bbde1"), looks := false }, kinds := [], alts := [], laidByText := true, laidKinds := [.sentinel, .sentinel, .sentinel, .sentinel, .sentinel], laidTests := true, laidLooks := .later }
def FnSignatureAlgorithmsBackCardSaid : Prop := Claim7.holds Tryd.pinned (.plain (OpenSpec.ofChange fnSignatureAlgorithmsBackSpec)) fnSignatureAlgorithmsBackCard

/-- THE TIED CARD OF 'laws.FnSignatureAlgorithmsCertCut'. -/
def fnSignatureAlgorithmsCertCutCard : Claim7 := { stood := { row := fnSignatureAlgorithmsCertCutRow, standIns := [], harness := (true, "c2f885eee8dd27f2fa154ae45416272b54063df99ed5b3744e605e6f1b9bbde1"), looks := false }, kinds := [], alts := [], laidByText := true, laidKinds := [.sentinel, .sentinel, .sentinel, .sentinel, .sentinel], laidTests := true, laidLooks := .later }
def FnSignatureAlgorithmsCertCutCardSaid : Prop := Claim7.holds Tryd.pinned (.plain (OpenSpec.ofChange fnSignatureAlgorithmsCertCutSpec)) fnSignatureAlgorithmsCertCutCard

/-- THE SECOND FORM's CARD OF 'laws.FnInnerBack'. -/
def fnInnerBackUptoCard : Claim7 := { stood := { row := fnInnerBackUptoRow, standIns := [], harness := (true, "c2f885eee8dd27f2fa154ae45416272b54063df99ed5b3744e605e6f1b9bbde1"), looks := false }, kinds := [], alts := [], laidByText := true, laidKinds := [.sentinel], laidTests := true, laidLooks := .later }
def FnInnerBackUptoCardSaid : Prop := Claim7.holds Tryd.pinned (.plain (OpenSpec.upto fnInnerBackSpec)) fnInnerBackUptoCard

/-- THE SECOND FORM's CARD OF 'laws.FnEarlyDataCut'. -/
def fnEarlyDataCutUptoCard : Claim7 := { stood := { row := fnEarlyDataCutUptoRow, standIns := [], harness := (true, "c2f885eee8dd27f2fa154ae45416272b54063df99ed5b3744e605e6f1b9bbde1"), looks := false }, kinds := [], alts := [], laidByText := true, laidKinds := [.sentinel, .sentinel, .sentinel], laidTests := true, laidLooks := .later }
def FnEarlyDataCutUptoCardSaid : Prop := Claim7.holds Tryd.pinned (.plain (OpenSpec.upto fnEarlyDataCutSpec)) fnEarlyDataCutUptoCard

/-- THE SECOND FORM's CARD OF 'laws.FnConnectionIDCut'. -/
def fnConnectionIDCutUptoCard : Claim7 := { stood := { row := fnConnectionIDCutUptoRow, standIns := [], harness := (true, "c2f885eee8dd27f2fa154ae45416272b54063df99ed5b3744e605e6f1b9bbde1"), looks := false }, kinds := [], alts := [], laidByText := true, laidKinds := [.sentinel, .sentinel, .sentinel, .sentinel], laidTests := true, laidLooks := .later }
def FnConnectionIDCutUptoCardSaid : Prop := Claim7.holds Tryd.pinned (.plain (OpenSpec.upto fnConnectionIDCutSpec)) fnConnectionIDCutUptoCard

/-- THE SECOND FORM's CARD OF 'laws.FnOIDFiltersBack'. -/
def fnOIDFiltersBackUptoCard : Claim7 := { stood := { row := fnOIDFiltersBackUptoRow, standIns := [], harness := (true, "c2f885eee8dd27f2fa154ae45416272b54063df99ed5b3744e605e6f1b9bbde1"), looks := false }, kinds := [], alts := [], laidByText := true, laidKinds := [.sentinel, .sentinel, .sentinel, .sentinel, .sentinel], laidTests := true, laidLooks := .later }
def FnOIDFiltersBackUptoCardSaid : Prop := Claim7.holds Tryd.pinned (.plain (OpenSpec.upto fnOIDFiltersBackSpec)) fnOIDFiltersBackUptoCard

/-- THE SECOND FORM's CARD OF 'laws.FnHeaderRead'. -/
def fnHeaderReadUptoCard : Claim7 := { stood := { row := fnHeaderReadUptoRow, standIns := [], harness := (true, "c2f885eee8dd27f2fa154ae45416272b54063df99ed5b3744e605e6f1b9bbde1"), looks := false }, kinds := [], alts := [], laidByText := true, laidKinds := [.data, .data, .sentinel, .sentinel, .sentinel], laidTests := true, laidLooks := .later }
def FnHeaderReadUptoCardSaid : Prop := Claim7.holds Tryd.pinned (.plain (OpenSpec.upto fnHeaderReadSpec)) fnHeaderReadUptoCard

/-- THE SECOND FORM's CARD OF 'laws.FnServerNameCut'. -/
def fnServerNameCutUptoCard : Claim7 := { stood := { row := fnServerNameCutUptoRow, standIns := [], harness := (true, "c2f885eee8dd27f2fa154ae45416272b54063df99ed5b3744e605e6f1b9bbde1"), looks := false }, kinds := [], alts := [], laidByText := true, laidKinds := [.sentinel, .sentinel, .sentinel, .sentinel], laidTests := true, laidLooks := .later }
def FnServerNameCutUptoCardSaid : Prop := Claim7.holds Tryd.pinned (.plain (OpenSpec.upto fnServerNameCutSpec)) fnServerNameCutUptoCard

/-- THE SECOND FORM's CARD OF 'laws.FnServerNameRefused'. -/
def fnServerNameRefusedUptoCard : Claim7 := { stood := { row := fnServerNameRefusedUptoRow, standIns := [], harness := (true, "c2f885eee8dd27f2fa154ae45416272b54063df99ed5b3744e605e6f1b9bbde1"), looks := false }, kinds := [], alts := [], laidByText := true, laidKinds := [.sentinel, .sentinel, .sentinel, .sentinel], laidTests := true, laidLooks := .later }
def FnServerNameRefusedUptoCardSaid : Prop := Claim7.holds Tryd.pinned (.plain (OpenSpec.upto fnServerNameRefusedSpec)) fnServerNameRefusedUptoCard

/-- THE SECOND FORM's CARD OF 'laws.FnPreSharedKeySelectedBack'. -/
def fnPreSharedKeySelectedBackUptoCard : Claim7 := { stood := { row := fnPreSharedKeySelectedBackUptoRow, standIns := [], harness := (true, "c2f885eee8dd27f2fa154ae45416272b54063df99ed5b3744e605e6f1b9bbde1"), looks := false }, kinds := [], alts := [], laidByText := true, laidKinds := [.sentinel, .sentinel, .sentinel, .sentinel], laidTests := true, laidLooks := .later }
def FnPreSharedKeySelectedBackUptoCardSaid : Prop := Claim7.holds Tryd.pinned (.plain (OpenSpec.upto fnPreSharedKeySelectedBackSpec)) fnPreSharedKeySelectedBackUptoCard

/-- THE SECOND FORM's CARD OF 'laws.FnKeyShareGroupCut'. -/
def fnKeyShareGroupCutUptoCard : Claim7 := { stood := { row := fnKeyShareGroupCutUptoRow, standIns := [], harness := (true, "c2f885eee8dd27f2fa154ae45416272b54063df99ed5b3744e605e6f1b9bbde1"), looks := false }, kinds := [], alts := [], laidByText := true, laidKinds := [.sentinel, .sentinel, .sentinel, .sentinel], laidTests := true, laidLooks := .later }
def FnKeyShareGroupCutUptoCardSaid : Prop := Claim7.holds Tryd.pinned (.plain (OpenSpec.upto fnKeyShareGroupCutSpec)) fnKeyShareGroupCutUptoCard

/-- THE SECOND FORM's CARD OF 'laws.FnKeyShareServerBack'. -/
def fnKeyShareServerBackUptoCard : Claim7 := { stood := { row := fnKeyShareServerBackUptoRow, standIns := [], harness := (true, "c2f885eee8dd27f2fa154ae45416272b54063df99ed5b3744e605e6f1b9bbde1"), looks := false }, kinds := [], alts := [], laidByText := true, laidKinds := [.sentinel, .sentinel, .sentinel, .sentinel], laidTests := true, laidLooks := .later }
def FnKeyShareServerBackUptoCardSaid : Prop := Claim7.holds Tryd.pinned (.plain (OpenSpec.upto fnKeyShareServerBackSpec)) fnKeyShareServerBackUptoCard

/-- THE SECOND FORM's CARD OF 'laws.FnSignatureAlgorithmsBack'. -/
def fnSignatureAlgorithmsBackUptoCard : Claim7 := { stood := { row := fnSignatureAlgorithmsBackUptoRow, standIns := [], harness := (true, "c2f885eee8dd27f2fa154ae45416272b54063df99ed5b3744e605e6f1b9bbde1"), looks := false }, kinds := [], alts := [], laidByText := true, laidKinds := [.sentinel, .sentinel, .sentinel, .sentinel, .sentinel], laidTests := true, laidLooks := .later }
def FnSignatureAlgorithmsBackUptoCardSaid : Prop := Claim7.holds Tryd.pinned (.plain (OpenSpec.upto fnSignatureAlgorithmsBackSpec)) fnSignatureAlgorithmsBackUptoCard

/-- THE SECOND FORM's CARD OF 'laws.FnSignatureAlgorithmsCertCut'. -/
def fnSignatureAlgorithmsCertCutUptoCard : Claim7 := { stood := { row := fnSignatureAlgorithmsCertCutUptoRow, standIns := [], harness := (true, "c2f885eee8dd27f2fa154ae45416272b54063df99ed5b3744e605e6f1b9bbde1"), looks := false }, kinds := [], alts := [], laidByText := true, laidKinds := [.sentinel, .sentinel, .sentinel, .sentinel, .sentinel], laidTests := true, laidLooks := .later }
def FnSignatureAlgorithmsCertCutUptoCardSaid : Prop := Claim7.holds Tryd.pinned (.plain (OpenSpec.upto fnSignatureAlgorithmsCertCutSpec)) fnSignatureAlgorithmsCertCutUptoCard
end Rows
end Go.Proofs.YtgjlnkciemdklaaDoor
