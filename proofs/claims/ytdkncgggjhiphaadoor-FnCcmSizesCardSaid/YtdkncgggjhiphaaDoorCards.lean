/-
  DERIVED. GIVEN WITH THE SEED: THE CARDS: each row of YtdkncgggjhiphaaDoorRows.lean that lists a variable, with what it lists TIED to the program's text (the seventh form; the later family's looks); each row that meets fmt, with fmt's text TOLD by the authors' own Lean function (tested against real Go, not proved from fmt's source: count such statements apart). THE CARD IS WHAT COUNTS. Prove the row's statement (the work); the ties are given (YtdkncgggjhiphaaDoorTie.lean); close each card by the builder's one call (the guide's Derived/Test/ToyasCard.lean, 'card_holds'). Laid BY PROGRAM, IN A SANDBOX (cutbox-door.mjs). By AI agents, Wed Nov 11 2026. No macro, syntax, notation, axiom, sorry.
-/
import Derived.Test.YtdkncgggjhiphaaDoorRows
import GoSem.ClaimSeven
namespace Go.Proofs.YtdkncgggjhiphaaDoor
namespace Rows

/-- THE TIED CARD OF 'laws.FnCipherSpec'. -/
def fnCipherSpecCard : Claim7 := { stood := { row := fnCipherSpecRow, standIns := [], harness := (true, "e1e849887a2bd1f65c2610016787834526ba5c0bf59a0c253dc0f6103add43a4"), looks := false }, kinds := [], alts := [], laidByText := true, laidKinds := [.sentinel], laidTests := true, laidLooks := .later }
def FnCipherSpecCardSaid : Prop := Claim7.holds Tryd.pinned (.plain (OpenSpec.ofChange fnCipherSpecSpec)) fnCipherSpecCard

/-- THE TIED CARD OF 'laws.FnVerifyRequestCut'. -/
def fnVerifyRequestCutCard : Claim7 := { stood := { row := fnVerifyRequestCutRow, standIns := [], harness := (true, "e1e849887a2bd1f65c2610016787834526ba5c0bf59a0c253dc0f6103add43a4"), looks := false }, kinds := [], alts := [], laidByText := true, laidKinds := [.sentinel], laidTests := true, laidLooks := .later }
def FnVerifyRequestCutCardSaid : Prop := Claim7.holds Tryd.pinned (.plain (OpenSpec.ofChange fnVerifyRequestCutSpec)) fnVerifyRequestCutCard

/-- THE TIED CARD OF 'laws.FnChooseProtocol'. -/
def fnChooseProtocolCard : Claim7 := { stood := { row := fnChooseProtocolRow, standIns := [], harness := (true, "e1e849887a2bd1f65c2610016787834526ba5c0bf59a0c253dc0f6103add43a4"), looks := false }, kinds := [], alts := [], laidByText := true, laidKinds := [.sentinel], laidTests := true, laidLooks := .later }
def FnChooseProtocolCardSaid : Prop := Claim7.holds Tryd.pinned (.plain (OpenSpec.ofChange fnChooseProtocolSpec)) fnChooseProtocolCard

/-- THE TIED CARD OF 'laws.FnRenegotiationBack'. -/
def fnRenegotiationBackCard : Claim7 := { stood := { row := fnRenegotiationBackRow, standIns := [], harness := (true, "e1e849887a2bd1f65c2610016787834526ba5c0bf59a0c253dc0f6103add43a4"), looks := false }, kinds := [], alts := [], laidByText := true, laidKinds := [.sentinel, .sentinel, .sentinel], laidTests := true, laidLooks := .later }
def FnRenegotiationBackCardSaid : Prop := Claim7.holds Tryd.pinned (.plain (OpenSpec.ofChange fnRenegotiationBackSpec)) fnRenegotiationBackCard

/-- THE TIED CARD OF 'laws.FnDatagramWhole'. -/
def fnDatagramWholeCard : Claim7 := { stood := { row := fnDatagramWholeRow, standIns := [], harness := (true, "e1e849887a2bd1f65c2610016787834526ba5c0bf59a0c253dc0f6103add43a4"), looks := false }, kinds := [], alts := [], laidByText := true, laidKinds := [.sentinel], laidTests := true, laidLooks := .later }
def FnDatagramWholeCardSaid : Prop := Claim7.holds Tryd.pinned (.plain (OpenSpec.ofChange fnDatagramWholeSpec)) fnDatagramWholeCard

/-- THE TIED CARD OF 'laws.FnPointFormatsWrite'. -/
def fnPointFormatsWriteCard : Claim7 := { stood := { row := fnPointFormatsWriteRow, standIns := [], harness := (true, "e1e849887a2bd1f65c2610016787834526ba5c0bf59a0c253dc0f6103add43a4"), looks := false }, kinds := [], alts := [], laidByText := true, laidKinds := [.sentinel], laidTests := true, laidLooks := .later }
def FnPointFormatsWriteCardSaid : Prop := Claim7.holds Tryd.pinned (.plain (OpenSpec.ofChange fnPointFormatsWriteSpec)) fnPointFormatsWriteCard

/-- THE TIED CARD OF 'laws.FnSuitesBack'. -/
def fnSuitesBackCard : Claim7 := { stood := { row := fnSuitesBackRow, standIns := [], harness := (true, "e1e849887a2bd1f65c2610016787834526ba5c0bf59a0c253dc0f6103add43a4"), looks := false }, kinds := [], alts := [], laidByText := true, laidKinds := [.sentinel], laidTests := true, laidLooks := .later }
def FnSuitesBackCardSaid : Prop := Claim7.holds Tryd.pinned (.plain (OpenSpec.ofChange fnSuitesBackSpec)) fnSuitesBackCard

/-- THE TIED CARD OF 'laws.FnCcmSizes'. -/
def fnCcmSizesCard : Claim7 := { stood := { row := fnCcmSizesRow, standIns := [], harness := (true, "e1e849887a2bd1f65c2610016787834526ba5c0bf59a0c253dc0f6103add43a4"), looks := false }, kinds := [], alts := [], laidByText := true, laidKinds := [.sentinel, .sentinel, .sentinel], laidTests := true, laidLooks := .later }
def FnCcmSizesCardSaid : Prop := Claim7.holds Tryd.pinned (.plain (OpenSpec.ofChange fnCcmSizesSpec)) fnCcmSizesCard

/-- THE TIED CARD OF 'laws.FnClientKeyPskCut'. -/
def fnClientKeyPskCutCard : Claim7 := { stood := { row := fnClientKeyPskCutRow, standIns := [], harness := (true, "e1e849887a2bd1f65c2610016787834526ba5c0bf59a0c253dc0f6103add43a4"), looks := false }, kinds := [], alts := [], laidByText := true, laidKinds := [.sentinel, .sentinel], laidTests := true, laidLooks := .later }
def FnClientKeyPskCutCardSaid : Prop := Claim7.holds Tryd.pinned (.plain (OpenSpec.ofChange fnClientKeyPskCutSpec)) fnClientKeyPskCutCard

/-- THE TIED CARD OF 'laws.FnClientKeyBothWrite'. -/
def fnClientKeyBothWriteCard : Claim7 := { stood := { row := fnClientKeyBothWriteRow, standIns := [], harness := (true, "e1e849887a2bd1f65c2610016787834526ba5c0bf59a0c253dc0f6103add43a4"), looks := false }, kinds := [], alts := [], laidByText := true, laidKinds := [.sentinel, .sentinel], laidTests := true, laidLooks := .later }
def FnClientKeyBothWriteCardSaid : Prop := Claim7.holds Tryd.pinned (.plain (OpenSpec.ofChange fnClientKeyBothWriteSpec)) fnClientKeyBothWriteCard

/-- THE SECOND FORM's CARD OF 'laws.FnCipherSpec'. -/
def fnCipherSpecUptoCard : Claim7 := { stood := { row := fnCipherSpecUptoRow, standIns := [], harness := (true, "e1e849887a2bd1f65c2610016787834526ba5c0bf59a0c253dc0f6103add43a4"), looks := false }, kinds := [], alts := [], laidByText := true, laidKinds := [.sentinel], laidTests := true, laidLooks := .later }
def FnCipherSpecUptoCardSaid : Prop := Claim7.holds Tryd.pinned (.plain (OpenSpec.upto fnCipherSpecSpec)) fnCipherSpecUptoCard

/-- THE SECOND FORM's CARD OF 'laws.FnVerifyRequestCut'. -/
def fnVerifyRequestCutUptoCard : Claim7 := { stood := { row := fnVerifyRequestCutUptoRow, standIns := [], harness := (true, "e1e849887a2bd1f65c2610016787834526ba5c0bf59a0c253dc0f6103add43a4"), looks := false }, kinds := [], alts := [], laidByText := true, laidKinds := [.sentinel], laidTests := true, laidLooks := .later }
def FnVerifyRequestCutUptoCardSaid : Prop := Claim7.holds Tryd.pinned (.plain (OpenSpec.upto fnVerifyRequestCutSpec)) fnVerifyRequestCutUptoCard

/-- THE SECOND FORM's CARD OF 'laws.FnChooseProtocol'. -/
def fnChooseProtocolUptoCard : Claim7 := { stood := { row := fnChooseProtocolUptoRow, standIns := [], harness := (true, "e1e849887a2bd1f65c2610016787834526ba5c0bf59a0c253dc0f6103add43a4"), looks := false }, kinds := [], alts := [], laidByText := true, laidKinds := [.sentinel], laidTests := true, laidLooks := .later }
def FnChooseProtocolUptoCardSaid : Prop := Claim7.holds Tryd.pinned (.plain (OpenSpec.upto fnChooseProtocolSpec)) fnChooseProtocolUptoCard

/-- THE SECOND FORM's CARD OF 'laws.FnRenegotiationBack'. -/
def fnRenegotiationBackUptoCard : Claim7 := { stood := { row := fnRenegotiationBackUptoRow, standIns := [], harness := (true, "e1e849887a2bd1f65c2610016787834526ba5c0bf59a0c253dc0f6103add43a4"), looks := false }, kinds := [], alts := [], laidByText := true, laidKinds := [.sentinel, .sentinel, .sentinel], laidTests := true, laidLooks := .later }
def FnRenegotiationBackUptoCardSaid : Prop := Claim7.holds Tryd.pinned (.plain (OpenSpec.upto fnRenegotiationBackSpec)) fnRenegotiationBackUptoCard

/-- THE SECOND FORM's CARD OF 'laws.FnDatagramWhole'. -/
def fnDatagramWholeUptoCard : Claim7 := { stood := { row := fnDatagramWholeUptoRow, standIns := [], harness := (true, "e1e849887a2bd1f65c2610016787834526ba5c0bf59a0c253dc0f6103add43a4"), looks := false }, kinds := [], alts := [], laidByText := true, laidKinds := [.sentinel], laidTests := true, laidLooks := .later }
def FnDatagramWholeUptoCardSaid : Prop := Claim7.holds Tryd.pinned (.plain (OpenSpec.upto fnDatagramWholeSpec)) fnDatagramWholeUptoCard

/-- THE SECOND FORM's CARD OF 'laws.FnPointFormatsWrite'. -/
def fnPointFormatsWriteUptoCard : Claim7 := { stood := { row := fnPointFormatsWriteUptoRow, standIns := [], harness := (true, "e1e849887a2bd1f65c2610016787834526ba5c0bf59a0c253dc0f6103add43a4"), looks := false }, kinds := [], alts := [], laidByText := true, laidKinds := [.sentinel], laidTests := true, laidLooks := .later }
def FnPointFormatsWriteUptoCardSaid : Prop := Claim7.holds Tryd.pinned (.plain (OpenSpec.upto fnPointFormatsWriteSpec)) fnPointFormatsWriteUptoCard

/-- THE SECOND FORM's CARD OF 'laws.FnSuitesBack'. -/
def fnSuitesBackUptoCard : Claim7 := { stood := { row := fnSuitesBackUptoRow, standIns := [], harness := (true, "e1e849887a2bd1f65c2610016787834526ba5c0bf59a0c253dc0f6103add43a4"), looks := false }, kinds := [], alts := [], laidByText := true, laidKinds := [.sentinel], laidTests := true, laidLooks := .later }
def FnSuitesBackUptoCardSaid : Prop := Claim7.holds Tryd.pinned (.plain (OpenSpec.upto fnSuitesBackSpec)) fnSuitesBackUptoCard

/-- THE SECOND FORM's CARD OF 'laws.FnCcmSizes'. -/
def fnCcmSizesUptoCard : Claim7 := { stood := { row := fnCcmSizesUptoRow, standIns := [], harness := (true, "e1e849887a2bd1f65c2610016787834526ba5c0bf59a0c253dc0f6103add43a4"), looks := false }, kinds := [], alts := [], laidByText := true, laidKinds := [.sentinel, .sentinel, .sentinel], laidTests := true, laidLooks := .later }
def FnCcmSizesUptoCardSaid : Prop := Claim7.holds Tryd.pinned (.plain (OpenSpec.upto fnCcmSizesSpec)) fnCcmSizesUptoCard

/-- THE SECOND FORM's CARD OF 'laws.FnClientKeyPskCut'. -/
def fnClientKeyPskCutUptoCard : Claim7 := { stood := { row := fnClientKeyPskCutUptoRow, standIns := [], harness := (true, "e1e849887a2bd1f65c2610016787834526ba5c0bf59a0c253dc0f6103add43a4"), looks := false }, kinds := [], alts := [], laidByText := true, laidKinds := [.sentinel, .sentinel], laidTests := true, laidLooks := .later }
def FnClientKeyPskCutUptoCardSaid : Prop := Claim7.holds Tryd.pinned (.plain (OpenSpec.upto fnClientKeyPskCutSpec)) fnClientKeyPskCutUptoCard

/-- THE SECOND FORM's CARD OF 'laws.FnClientKeyBothWrite'. -/
def fnClientKeyBothWriteUptoCard : Claim7 := { stood := { row := fnClientKeyBothWriteUptoRow, standIns := [], harness := (true, "e1e849887a2bd1f65c2610016787834526ba5c0bf59a0c253dc0f6103add43a4"), looks := false }, kinds := [], alts := [], laidByText := true, laidKinds := [.sentinel, .sentinel], laidTests := true, laidLooks := .later }
def FnClientKeyBothWriteUptoCardSaid : Prop := Claim7.holds Tryd.pinned (.plain (OpenSpec.upto fnClientKeyBothWriteSpec)) fnClientKeyBothWriteUptoCard
end Rows
end Go.Proofs.YtdkncgggjhiphaaDoor
