/-
  NARROWER THAN 'FOR EVERY INPUT', by the rows' own cells (each row's printed sentence says how): FnInnerBack: laid · FnEarlyDataCut: laid · FnConnectionIDCut: laid · FnOIDFiltersBack: laid · FnHeaderRead: laid · FnServerNameCut: laid · FnServerNameRefused: laid · FnPreSharedKeySelectedBack: laid · FnKeyShareGroupCut: laid · FnKeyShareServerBack: laid · FnSignatureAlgorithmsBack: laid · FnSignatureAlgorithmsCertCut: laid.
  DERIVED. THE GIVEN ROWS OF THIS SEAT. 12 by the template 'for every input the law returns true; each argument reads behind the call as it read before'; 0 by the template 'total and deterministic' (their statements: YtgjlnkciemdklaaDoorTotals.lean).
  GIVEN WITH THE SEED: the statements are not yours to turn. If you find one false, say at which input.
  Laid BY PROGRAM, IN A SANDBOX (cutbox-rows.mjs): the forced cells as the released guide's own fill.sh prints them over the translation 2da638f75b67235a… (all of the seat's roots in one cut). By AI agents, Wed Nov 11 2026. No macro, syntax, notation, axiom, sorry.
-/
import Derived.Test.YtgjlnkciemdklaaDoorChecked
import GoSem.Claim
import GoSem.ClaimJoined
import GoSem.ClaimMapViews
import Derived.JoinedTies
import Derived.KernelRfl
namespace Go.Proofs.YtgjlnkciemdklaaDoor
/- THE CELL 'sum', in the pinned program and in every row, IS THE sha256 OF THE DUMP (.gsa) THAT YtgjlnkciemdklaaDoorProg.lean LOADS. Nothing in Lean hashes anything: it is a label: what it is worth is what the hold of that sum in a sandbox is worth. -/
noncomputable def Tryd.pinned : Pinned := { name := "ytgjlnkciemdklaadoor", sum := "2da638f75b67235a67c7a6d99625fff9e886df0e147c576dea600a349a190d92", checked := Tryd.checked }
namespace Rows
def none {H : Type} : Left H := { results := [], args := [] }

/- WHAT THE LISTED PACKAGE-LEVEL VARIABLES READ AS WHEN THE CALL BEGINS. Each datum BY PROGRAM (the guide's laid-datum.mjs) off the statement by which the dump's own 'gosem.cut.vars' lays the variable. In a bare row this is a premise. The card (YtgjlnkciemdklaaDoorCards.lean) ties it to the program's text. -/
def laid_pub_convoy_pub_dtls_pkg_protocol_recordlayer_errBufferTooSmall {H : Type} : DataW H := .iface "*errors.errorString" (.ptr (.agg [.lit (.string [98, 117, 102, 102, 101, 114, 32, 105, 115, 32, 116, 111, 111, 32, 115, 109, 97, 108, 108])]))
def laid_pub_convoy_pub_dtls_pkg_protocol_extension_errBufferTooSmall {H : Type} : DataW H := .iface "*errors.errorString" (.ptr (.agg [.lit (.string [98, 117, 102, 102, 101, 114, 32, 105, 115, 32, 116, 111, 111, 32, 115, 109, 97, 108, 108])]))
def laid_pub_convoy_pub_dtls_pkg_protocol_extension_errInvalidExtensionType {H : Type} : DataW H := .iface "*errors.errorString" (.ptr (.agg [.lit (.string [105, 110, 118, 97, 108, 105, 100, 32, 101, 120, 116, 101, 110, 115, 105, 111, 110, 32, 116, 121, 112, 101])]))
def laid_pub_convoy_pub_dtls_pkg_protocol_extension_errEarlyDataIndicationFormat {H : Type} : DataW H := .iface "*errors.errorString" (.ptr (.agg [.lit (.string [105, 110, 118, 97, 108, 105, 100, 32, 69, 97, 114, 108, 121, 32, 68, 97, 116, 97, 32, 73, 110, 100, 105, 99, 97, 116, 105, 111, 110, 32, 101, 120, 116, 101, 110, 115, 105, 111, 110, 32, 102, 111, 114, 109, 97, 116])]))
def laid_pub_convoy_pub_dtls_pkg_protocol_extension_errInvalidCIDFormat {H : Type} : DataW H := .iface "*errors.errorString" (.ptr (.agg [.lit (.string [105, 110, 118, 97, 108, 105, 100, 32, 99, 111, 110, 110, 101, 99, 116, 105, 111, 110, 32, 73, 68, 32, 102, 111, 114, 109, 97, 116])]))
def laid_pub_convoy_pub_dtls_pkg_protocol_extension_errLengthMismatch {H : Type} : DataW H := .iface "*errors.errorString" (.ptr (.agg [.lit (.string [100, 97, 116, 97, 32, 108, 101, 110, 103, 116, 104, 32, 97, 110, 100, 32, 100, 101, 99, 108, 97, 114, 101, 100, 32, 108, 101, 110, 103, 116, 104, 32, 100, 111, 32, 110, 111, 116, 32, 109, 97, 116, 99, 104])]))
def laid_pub_convoy_pub_dtls_pkg_protocol_extension_errOIDFiltersFormat {H : Type} : DataW H := .iface "*errors.errorString" (.ptr (.agg [.lit (.string [105, 110, 118, 97, 108, 105, 100, 32, 79, 73, 68, 32, 102, 105, 108, 116, 101, 114, 115, 32, 101, 120, 116, 101, 110, 115, 105, 111, 110, 32, 102, 111, 114, 109, 97, 116])]))
def laid_pub_convoy_pub_dtls_pkg_protocol_extension_errDuplicateOID {H : Type} : DataW H := .iface "*errors.errorString" (.ptr (.agg [.lit (.string [100, 117, 112, 108, 105, 99, 97, 116, 101, 32, 79, 73, 68, 32, 102, 105, 108, 116, 101, 114, 115])]))
def laid_pub_convoy_pub_dtls_pkg_protocol_Version1_0 {H : Type} : DataW H := .agg [.lit (.int .u8 254), .lit (.int .u8 255)]
def laid_pub_convoy_pub_dtls_pkg_protocol_Version1_2 {H : Type} : DataW H := .agg [.lit (.int .u8 254), .lit (.int .u8 253)]
def laid_pub_convoy_pub_dtls_pkg_protocol_recordlayer_errSequenceNumberOverflow {H : Type} : DataW H := .iface "*errors.errorString" (.ptr (.agg [.lit (.string [115, 101, 113, 117, 101, 110, 99, 101, 32, 110, 117, 109, 98, 101, 114, 32, 111, 118, 101, 114, 102, 108, 111, 119])]))
def laid_pub_convoy_pub_dtls_pkg_protocol_recordlayer_errUnsupportedProtocolVersion {H : Type} : DataW H := .iface "*errors.errorString" (.ptr (.agg [.lit (.string [117, 110, 115, 117, 112, 112, 111, 114, 116, 101, 100, 32, 112, 114, 111, 116, 111, 99, 111, 108, 32, 118, 101, 114, 115, 105, 111, 110])]))
def laid_pub_convoy_pub_dtls_pkg_protocol_extension_errInvalidSNIFormat {H : Type} : DataW H := .iface "*errors.errorString" (.ptr (.agg [.lit (.string [105, 110, 118, 97, 108, 105, 100, 32, 115, 101, 114, 118, 101, 114, 32, 110, 97, 109, 101, 32, 102, 111, 114, 109, 97, 116])]))
def laid_pub_convoy_pub_dtls_pkg_protocol_extension_errPreSharedKeyFormat {H : Type} : DataW H := .iface "*errors.errorString" (.ptr (.agg [.lit (.string [105, 110, 118, 97, 108, 105, 100, 32, 80, 114, 101, 45, 83, 104, 97, 114, 101, 100, 32, 75, 101, 121, 32, 101, 120, 116, 101, 110, 115, 105, 111, 110, 32, 102, 111, 114, 109, 97, 116])]))
def laid_pub_convoy_pub_dtls_pkg_protocol_extension_errInvalidKeyShareFormat {H : Type} : DataW H := .iface "*errors.errorString" (.ptr (.agg [.lit (.string [105, 110, 118, 97, 108, 105, 100, 32, 107, 101, 121, 95, 115, 104, 97, 114, 101, 32, 102, 111, 114, 109, 97, 116])]))
def laid_pub_convoy_pub_dtls_pkg_protocol_extension_errDuplicateKeyShare {H : Type} : DataW H := .iface "*errors.errorString" (.ptr (.agg [.lit (.string [100, 117, 112, 108, 105, 99, 97, 116, 101, 32, 107, 101, 121, 95, 115, 104, 97, 114, 101, 32, 103, 114, 111, 117, 112])]))
def laid_pub_convoy_pub_dtls_pkg_crypto_signaturehash_errInvalidSignatureAlgorithm {H : Type} : DataW H := .iface "*errors.errorString" (.ptr (.agg [.lit (.string [105, 110, 118, 97, 108, 105, 100, 32, 115, 105, 103, 110, 97, 116, 117, 114, 101, 32, 97, 108, 103, 111, 114, 105, 116, 104, 109])]))
def laid_pub_convoy_pub_dtls_pkg_crypto_signaturehash_errInvalidHashAlgorithm {H : Type} : DataW H := .iface "*errors.errorString" (.ptr (.agg [.lit (.string [105, 110, 118, 97, 108, 105, 100, 32, 104, 97, 115, 104, 32, 97, 108, 103, 111, 114, 105, 116, 104, 109])]))

/-- 'laws.FnInnerBack': WHATEVER THE INPUT: true; the input reads as it did. -/
def fnInnerBackSpec : ChangeSpec := { name := "fnInnerBack", fn := fun _ => fun
  | [d1, d2, d3] => { results := [.lit (.bool true)], args := [d1, d2, d3] }
  | _ => none }
def fnInnerBackRow : OpenClaim := { program := "ytgjlnkciemdklaadoor", sum := "2da638f75b67235a67c7a6d99625fff9e886df0e147c576dea600a349a190d92", func := "pub-convoy/laws.FnInnerBack", spec := "fnInnerBack", named := ["pub-convoy/pub/dtls/pkg/protocol/recordlayer.errBufferTooSmall"], apart := false, laid := [("pub-convoy/pub/dtls/pkg/protocol/recordlayer.errBufferTooSmall", laid_pub_convoy_pub_dtls_pkg_protocol_recordlayer_errBufferTooSmall)] }
def FnInnerBackSaid : Prop := fnInnerBackRow.holds Tryd.pinned (OpenSpec.ofChange fnInnerBackSpec)

/-- ITS FALSE NEIGHBOUR: 'it returns false'. Refute it at one input. -/
def fnInnerBackWrong : ChangeSpec := { name := "fnInnerBack", fn := fun _ => fun
  | [d1, d2, d3] => { results := [.lit (.bool false)], args := [d1, d2, d3] }
  | _ => none }
def FnInnerBackWrongFalsely : Prop := fnInnerBackRow.holds Tryd.pinned (OpenSpec.ofChange fnInnerBackWrong)

/-- 'laws.FnEarlyDataCut': WHATEVER THE INPUT: true; the input reads as it did. -/
def fnEarlyDataCutSpec : ChangeSpec := { name := "fnEarlyDataCut", fn := fun _ => fun
  | [d1, d2, d3] => { results := [.lit (.bool true)], args := [d1, d2, d3] }
  | _ => none }
def fnEarlyDataCutRow : OpenClaim := { program := "ytgjlnkciemdklaadoor", sum := "2da638f75b67235a67c7a6d99625fff9e886df0e147c576dea600a349a190d92", func := "pub-convoy/laws.FnEarlyDataCut", spec := "fnEarlyDataCut", named := ["pub-convoy/pub/dtls/pkg/protocol/extension.errInvalidExtensionType", "pub-convoy/pub/dtls/pkg/protocol/extension.errBufferTooSmall", "pub-convoy/pub/dtls/pkg/protocol/extension.errEarlyDataIndicationFormat"], apart := false, laid := [("pub-convoy/pub/dtls/pkg/protocol/extension.errBufferTooSmall", laid_pub_convoy_pub_dtls_pkg_protocol_extension_errBufferTooSmall), ("pub-convoy/pub/dtls/pkg/protocol/extension.errInvalidExtensionType", laid_pub_convoy_pub_dtls_pkg_protocol_extension_errInvalidExtensionType), ("pub-convoy/pub/dtls/pkg/protocol/extension.errEarlyDataIndicationFormat", laid_pub_convoy_pub_dtls_pkg_protocol_extension_errEarlyDataIndicationFormat)] }
def FnEarlyDataCutSaid : Prop := fnEarlyDataCutRow.holds Tryd.pinned (OpenSpec.ofChange fnEarlyDataCutSpec)

/-- ITS FALSE NEIGHBOUR: 'it returns false'. Refute it at one input. -/
def fnEarlyDataCutWrong : ChangeSpec := { name := "fnEarlyDataCut", fn := fun _ => fun
  | [d1, d2, d3] => { results := [.lit (.bool false)], args := [d1, d2, d3] }
  | _ => none }
def FnEarlyDataCutWrongFalsely : Prop := fnEarlyDataCutRow.holds Tryd.pinned (OpenSpec.ofChange fnEarlyDataCutWrong)

/-- 'laws.FnConnectionIDCut': WHATEVER THE INPUT: true; the input reads as it did. -/
def fnConnectionIDCutSpec : ChangeSpec := { name := "fnConnectionIDCut", fn := fun _ => fun
  | [d1, d2] => { results := [.lit (.bool true)], args := [d1, d2] }
  | _ => none }
def fnConnectionIDCutRow : OpenClaim := { program := "ytgjlnkciemdklaadoor", sum := "2da638f75b67235a67c7a6d99625fff9e886df0e147c576dea600a349a190d92", func := "pub-convoy/laws.FnConnectionIDCut", spec := "fnConnectionIDCut", named := ["pub-convoy/pub/dtls/pkg/protocol/extension.errInvalidExtensionType", "pub-convoy/pub/dtls/pkg/protocol/extension.errBufferTooSmall", "pub-convoy/pub/dtls/pkg/protocol/extension.errInvalidCIDFormat", "pub-convoy/pub/dtls/pkg/protocol/extension.errLengthMismatch"], apart := false, laid := [("pub-convoy/pub/dtls/pkg/protocol/extension.errBufferTooSmall", laid_pub_convoy_pub_dtls_pkg_protocol_extension_errBufferTooSmall), ("pub-convoy/pub/dtls/pkg/protocol/extension.errInvalidExtensionType", laid_pub_convoy_pub_dtls_pkg_protocol_extension_errInvalidExtensionType), ("pub-convoy/pub/dtls/pkg/protocol/extension.errInvalidCIDFormat", laid_pub_convoy_pub_dtls_pkg_protocol_extension_errInvalidCIDFormat), ("pub-convoy/pub/dtls/pkg/protocol/extension.errLengthMismatch", laid_pub_convoy_pub_dtls_pkg_protocol_extension_errLengthMismatch)] }
def FnConnectionIDCutSaid : Prop := fnConnectionIDCutRow.holds Tryd.pinned (OpenSpec.ofChange fnConnectionIDCutSpec)

/-- ITS FALSE NEIGHBOUR: 'it returns false'. Refute it at one input. -/
def fnConnectionIDCutWrong : ChangeSpec := { name := "fnConnectionIDCut", fn := fun _ => fun
  | [d1, d2] => { results := [.lit (.bool false)], args := [d1, d2] }
  | _ => none }
def FnConnectionIDCutWrongFalsely : Prop := fnConnectionIDCutRow.holds Tryd.pinned (OpenSpec.ofChange fnConnectionIDCutWrong)

/-- 'laws.FnOIDFiltersBack': WHATEVER THE INPUT: true; the input reads as it did. -/
def fnOIDFiltersBackSpec : ChangeSpec := { name := "fnOIDFiltersBack", fn := fun _ => fun
  | [d] => { results := [.lit (.bool true)], args := [d] }
  | _ => none }
def fnOIDFiltersBackRow : OpenClaim := { program := "ytgjlnkciemdklaadoor", sum := "2da638f75b67235a67c7a6d99625fff9e886df0e147c576dea600a349a190d92", func := "pub-convoy/laws.FnOIDFiltersBack", spec := "fnOIDFiltersBack", unfollowed := true, recurses := true, named := ["pub-convoy/pub/dtls/pkg/protocol/extension.errInvalidExtensionType", "pub-convoy/pub/dtls/pkg/protocol/extension.errBufferTooSmall", "pub-convoy/pub/dtls/pkg/protocol/extension.errLengthMismatch", "pub-convoy/pub/dtls/pkg/protocol/extension.errOIDFiltersFormat", "pub-convoy/pub/dtls/pkg/protocol/extension.errDuplicateOID"], apart := false, laid := [("pub-convoy/pub/dtls/pkg/protocol/extension.errBufferTooSmall", laid_pub_convoy_pub_dtls_pkg_protocol_extension_errBufferTooSmall), ("pub-convoy/pub/dtls/pkg/protocol/extension.errInvalidExtensionType", laid_pub_convoy_pub_dtls_pkg_protocol_extension_errInvalidExtensionType), ("pub-convoy/pub/dtls/pkg/protocol/extension.errLengthMismatch", laid_pub_convoy_pub_dtls_pkg_protocol_extension_errLengthMismatch), ("pub-convoy/pub/dtls/pkg/protocol/extension.errOIDFiltersFormat", laid_pub_convoy_pub_dtls_pkg_protocol_extension_errOIDFiltersFormat), ("pub-convoy/pub/dtls/pkg/protocol/extension.errDuplicateOID", laid_pub_convoy_pub_dtls_pkg_protocol_extension_errDuplicateOID)] }
def FnOIDFiltersBackSaid : Prop := fnOIDFiltersBackRow.holds Tryd.pinned (OpenSpec.ofChange fnOIDFiltersBackSpec)

/-- ITS FALSE NEIGHBOUR: 'it returns false'. Refute it at one input. -/
def fnOIDFiltersBackWrong : ChangeSpec := { name := "fnOIDFiltersBack", fn := fun _ => fun
  | [d] => { results := [.lit (.bool false)], args := [d] }
  | _ => none }
def FnOIDFiltersBackWrongFalsely : Prop := fnOIDFiltersBackRow.holds Tryd.pinned (OpenSpec.ofChange fnOIDFiltersBackWrong)

/-- 'laws.FnHeaderRead': WHATEVER THE INPUT: true; the input reads as it did. -/
def fnHeaderReadSpec : ChangeSpec := { name := "fnHeaderRead", fn := fun _ => fun
  | [d1, d2] => { results := [.lit (.bool true)], args := [d1, d2] }
  | _ => none }
def fnHeaderReadRow : OpenClaim := { program := "ytgjlnkciemdklaadoor", sum := "2da638f75b67235a67c7a6d99625fff9e886df0e147c576dea600a349a190d92", func := "pub-convoy/laws.FnHeaderRead", spec := "fnHeaderRead", named := ["pub-convoy/pub/dtls/pkg/protocol/recordlayer.errBufferTooSmall", "encoding/binary.BigEndian", "pub-convoy/pub/dtls/pkg/protocol.Version1_0", "pub-convoy/pub/dtls/pkg/protocol.Version1_2", "pub-convoy/pub/dtls/pkg/protocol/recordlayer.errUnsupportedProtocolVersion", "pub-convoy/pub/dtls/pkg/protocol/recordlayer.errSequenceNumberOverflow"], apart := false, laid := [("pub-convoy/pub/dtls/pkg/protocol.Version1_0", laid_pub_convoy_pub_dtls_pkg_protocol_Version1_0), ("pub-convoy/pub/dtls/pkg/protocol.Version1_2", laid_pub_convoy_pub_dtls_pkg_protocol_Version1_2), ("pub-convoy/pub/dtls/pkg/protocol/recordlayer.errBufferTooSmall", laid_pub_convoy_pub_dtls_pkg_protocol_recordlayer_errBufferTooSmall), ("pub-convoy/pub/dtls/pkg/protocol/recordlayer.errSequenceNumberOverflow", laid_pub_convoy_pub_dtls_pkg_protocol_recordlayer_errSequenceNumberOverflow), ("pub-convoy/pub/dtls/pkg/protocol/recordlayer.errUnsupportedProtocolVersion", laid_pub_convoy_pub_dtls_pkg_protocol_recordlayer_errUnsupportedProtocolVersion)] }
def FnHeaderReadSaid : Prop := fnHeaderReadRow.holds Tryd.pinned (OpenSpec.ofChange fnHeaderReadSpec)

/-- ITS FALSE NEIGHBOUR: 'it returns false'. Refute it at one input. -/
def fnHeaderReadWrong : ChangeSpec := { name := "fnHeaderRead", fn := fun _ => fun
  | [d1, d2] => { results := [.lit (.bool false)], args := [d1, d2] }
  | _ => none }
def FnHeaderReadWrongFalsely : Prop := fnHeaderReadRow.holds Tryd.pinned (OpenSpec.ofChange fnHeaderReadWrong)

/-- 'laws.FnServerNameCut': WHATEVER THE INPUT: true; the input reads as it did. -/
def fnServerNameCutSpec : ChangeSpec := { name := "fnServerNameCut", fn := fun _ => fun
  | [d1, d2] => { results := [.lit (.bool true)], args := [d1, d2] }
  | _ => none }
def fnServerNameCutRow : OpenClaim := { program := "ytgjlnkciemdklaadoor", sum := "2da638f75b67235a67c7a6d99625fff9e886df0e147c576dea600a349a190d92", func := "pub-convoy/laws.FnServerNameCut", spec := "fnServerNameCut", named := ["pub-convoy/pub/dtls/pkg/protocol/extension.errInvalidExtensionType", "pub-convoy/pub/dtls/pkg/protocol/extension.errBufferTooSmall", "pub-convoy/pub/dtls/pkg/protocol/extension.errInvalidSNIFormat", "pub-convoy/pub/dtls/pkg/protocol/extension.errLengthMismatch"], apart := false, laid := [("pub-convoy/pub/dtls/pkg/protocol/extension.errBufferTooSmall", laid_pub_convoy_pub_dtls_pkg_protocol_extension_errBufferTooSmall), ("pub-convoy/pub/dtls/pkg/protocol/extension.errInvalidExtensionType", laid_pub_convoy_pub_dtls_pkg_protocol_extension_errInvalidExtensionType), ("pub-convoy/pub/dtls/pkg/protocol/extension.errInvalidSNIFormat", laid_pub_convoy_pub_dtls_pkg_protocol_extension_errInvalidSNIFormat), ("pub-convoy/pub/dtls/pkg/protocol/extension.errLengthMismatch", laid_pub_convoy_pub_dtls_pkg_protocol_extension_errLengthMismatch)] }
def FnServerNameCutSaid : Prop := fnServerNameCutRow.holds Tryd.pinned (OpenSpec.ofChange fnServerNameCutSpec)

/-- ITS FALSE NEIGHBOUR: 'it returns false'. Refute it at one input. -/
def fnServerNameCutWrong : ChangeSpec := { name := "fnServerNameCut", fn := fun _ => fun
  | [d1, d2] => { results := [.lit (.bool false)], args := [d1, d2] }
  | _ => none }
def FnServerNameCutWrongFalsely : Prop := fnServerNameCutRow.holds Tryd.pinned (OpenSpec.ofChange fnServerNameCutWrong)

/-- 'laws.FnServerNameRefused': WHATEVER THE INPUT: true; the input reads as it did. -/
def fnServerNameRefusedSpec : ChangeSpec := { name := "fnServerNameRefused", fn := fun _ => fun
  | [d] => { results := [.lit (.bool true)], args := [d] }
  | _ => none }
def fnServerNameRefusedRow : OpenClaim := { program := "ytgjlnkciemdklaadoor", sum := "2da638f75b67235a67c7a6d99625fff9e886df0e147c576dea600a349a190d92", func := "pub-convoy/laws.FnServerNameRefused", spec := "fnServerNameRefused", named := ["pub-convoy/pub/dtls/pkg/protocol/extension.errInvalidExtensionType", "pub-convoy/pub/dtls/pkg/protocol/extension.errBufferTooSmall", "pub-convoy/pub/dtls/pkg/protocol/extension.errInvalidSNIFormat", "pub-convoy/pub/dtls/pkg/protocol/extension.errLengthMismatch"], apart := false, laid := [("pub-convoy/pub/dtls/pkg/protocol/extension.errBufferTooSmall", laid_pub_convoy_pub_dtls_pkg_protocol_extension_errBufferTooSmall), ("pub-convoy/pub/dtls/pkg/protocol/extension.errInvalidExtensionType", laid_pub_convoy_pub_dtls_pkg_protocol_extension_errInvalidExtensionType), ("pub-convoy/pub/dtls/pkg/protocol/extension.errInvalidSNIFormat", laid_pub_convoy_pub_dtls_pkg_protocol_extension_errInvalidSNIFormat), ("pub-convoy/pub/dtls/pkg/protocol/extension.errLengthMismatch", laid_pub_convoy_pub_dtls_pkg_protocol_extension_errLengthMismatch)] }
def FnServerNameRefusedSaid : Prop := fnServerNameRefusedRow.holds Tryd.pinned (OpenSpec.ofChange fnServerNameRefusedSpec)

/-- ITS FALSE NEIGHBOUR: 'it returns false'. Refute it at one input. -/
def fnServerNameRefusedWrong : ChangeSpec := { name := "fnServerNameRefused", fn := fun _ => fun
  | [d] => { results := [.lit (.bool false)], args := [d] }
  | _ => none }
def FnServerNameRefusedWrongFalsely : Prop := fnServerNameRefusedRow.holds Tryd.pinned (OpenSpec.ofChange fnServerNameRefusedWrong)

/-- 'laws.FnPreSharedKeySelectedBack': WHATEVER THE INPUT: true; the input reads as it did. -/
def fnPreSharedKeySelectedBackSpec : ChangeSpec := { name := "fnPreSharedKeySelectedBack", fn := fun _ => fun
  | [d] => { results := [.lit (.bool true)], args := [d] }
  | _ => none }
def fnPreSharedKeySelectedBackRow : OpenClaim := { program := "ytgjlnkciemdklaadoor", sum := "2da638f75b67235a67c7a6d99625fff9e886df0e147c576dea600a349a190d92", func := "pub-convoy/laws.FnPreSharedKeySelectedBack", spec := "fnPreSharedKeySelectedBack", unfollowed := true, recurses := true, named := ["pub-convoy/pub/dtls/pkg/protocol/extension.errInvalidExtensionType", "pub-convoy/pub/dtls/pkg/protocol/extension.errBufferTooSmall", "pub-convoy/pub/dtls/pkg/protocol/extension.errPreSharedKeyFormat", "pub-convoy/pub/dtls/pkg/protocol/extension.errLengthMismatch"], apart := false, laid := [("pub-convoy/pub/dtls/pkg/protocol/extension.errBufferTooSmall", laid_pub_convoy_pub_dtls_pkg_protocol_extension_errBufferTooSmall), ("pub-convoy/pub/dtls/pkg/protocol/extension.errInvalidExtensionType", laid_pub_convoy_pub_dtls_pkg_protocol_extension_errInvalidExtensionType), ("pub-convoy/pub/dtls/pkg/protocol/extension.errLengthMismatch", laid_pub_convoy_pub_dtls_pkg_protocol_extension_errLengthMismatch), ("pub-convoy/pub/dtls/pkg/protocol/extension.errPreSharedKeyFormat", laid_pub_convoy_pub_dtls_pkg_protocol_extension_errPreSharedKeyFormat)] }
def FnPreSharedKeySelectedBackSaid : Prop := fnPreSharedKeySelectedBackRow.holds Tryd.pinned (OpenSpec.ofChange fnPreSharedKeySelectedBackSpec)

/-- ITS FALSE NEIGHBOUR: 'it returns false'. Refute it at one input. -/
def fnPreSharedKeySelectedBackWrong : ChangeSpec := { name := "fnPreSharedKeySelectedBack", fn := fun _ => fun
  | [d] => { results := [.lit (.bool false)], args := [d] }
  | _ => none }
def FnPreSharedKeySelectedBackWrongFalsely : Prop := fnPreSharedKeySelectedBackRow.holds Tryd.pinned (OpenSpec.ofChange fnPreSharedKeySelectedBackWrong)

/-- 'laws.FnKeyShareGroupCut': WHATEVER THE INPUT: true; the input reads as it did. -/
def fnKeyShareGroupCutSpec : ChangeSpec := { name := "fnKeyShareGroupCut", fn := fun _ => fun
  | [d1, d2] => { results := [.lit (.bool true)], args := [d1, d2] }
  | _ => none }
def fnKeyShareGroupCutRow : OpenClaim := { program := "ytgjlnkciemdklaadoor", sum := "2da638f75b67235a67c7a6d99625fff9e886df0e147c576dea600a349a190d92", func := "pub-convoy/laws.FnKeyShareGroupCut", spec := "fnKeyShareGroupCut", named := ["pub-convoy/pub/dtls/pkg/protocol/extension.errInvalidExtensionType", "pub-convoy/pub/dtls/pkg/protocol/extension.errBufferTooSmall", "pub-convoy/pub/dtls/pkg/protocol/extension.errInvalidKeyShareFormat", "pub-convoy/pub/dtls/pkg/protocol/extension.errDuplicateKeyShare"], apart := false, laid := [("pub-convoy/pub/dtls/pkg/protocol/extension.errBufferTooSmall", laid_pub_convoy_pub_dtls_pkg_protocol_extension_errBufferTooSmall), ("pub-convoy/pub/dtls/pkg/protocol/extension.errInvalidExtensionType", laid_pub_convoy_pub_dtls_pkg_protocol_extension_errInvalidExtensionType), ("pub-convoy/pub/dtls/pkg/protocol/extension.errInvalidKeyShareFormat", laid_pub_convoy_pub_dtls_pkg_protocol_extension_errInvalidKeyShareFormat), ("pub-convoy/pub/dtls/pkg/protocol/extension.errDuplicateKeyShare", laid_pub_convoy_pub_dtls_pkg_protocol_extension_errDuplicateKeyShare)] }
def FnKeyShareGroupCutSaid : Prop := fnKeyShareGroupCutRow.holds Tryd.pinned (OpenSpec.ofChange fnKeyShareGroupCutSpec)

/-- ITS FALSE NEIGHBOUR: 'it returns false'. Refute it at one input. -/
def fnKeyShareGroupCutWrong : ChangeSpec := { name := "fnKeyShareGroupCut", fn := fun _ => fun
  | [d1, d2] => { results := [.lit (.bool false)], args := [d1, d2] }
  | _ => none }
def FnKeyShareGroupCutWrongFalsely : Prop := fnKeyShareGroupCutRow.holds Tryd.pinned (OpenSpec.ofChange fnKeyShareGroupCutWrong)

/-- 'laws.FnKeyShareServerBack': WHATEVER THE INPUT: true; the input reads as it did. -/
def fnKeyShareServerBackSpec : ChangeSpec := { name := "fnKeyShareServerBack", fn := fun _ => fun
  | [d] => { results := [.lit (.bool true)], args := [d] }
  | _ => none }
def fnKeyShareServerBackRow : OpenClaim := { program := "ytgjlnkciemdklaadoor", sum := "2da638f75b67235a67c7a6d99625fff9e886df0e147c576dea600a349a190d92", func := "pub-convoy/laws.FnKeyShareServerBack", spec := "fnKeyShareServerBack", unfollowed := true, recurses := true, named := ["pub-convoy/pub/dtls/pkg/protocol/extension.errInvalidExtensionType", "pub-convoy/pub/dtls/pkg/protocol/extension.errBufferTooSmall", "pub-convoy/pub/dtls/pkg/protocol/extension.errInvalidKeyShareFormat", "pub-convoy/pub/dtls/pkg/protocol/extension.errDuplicateKeyShare"], apart := false, laid := [("pub-convoy/pub/dtls/pkg/protocol/extension.errBufferTooSmall", laid_pub_convoy_pub_dtls_pkg_protocol_extension_errBufferTooSmall), ("pub-convoy/pub/dtls/pkg/protocol/extension.errInvalidExtensionType", laid_pub_convoy_pub_dtls_pkg_protocol_extension_errInvalidExtensionType), ("pub-convoy/pub/dtls/pkg/protocol/extension.errInvalidKeyShareFormat", laid_pub_convoy_pub_dtls_pkg_protocol_extension_errInvalidKeyShareFormat), ("pub-convoy/pub/dtls/pkg/protocol/extension.errDuplicateKeyShare", laid_pub_convoy_pub_dtls_pkg_protocol_extension_errDuplicateKeyShare)] }
def FnKeyShareServerBackSaid : Prop := fnKeyShareServerBackRow.holds Tryd.pinned (OpenSpec.ofChange fnKeyShareServerBackSpec)

/-- ITS FALSE NEIGHBOUR: 'it returns false'. Refute it at one input. -/
def fnKeyShareServerBackWrong : ChangeSpec := { name := "fnKeyShareServerBack", fn := fun _ => fun
  | [d] => { results := [.lit (.bool false)], args := [d] }
  | _ => none }
def FnKeyShareServerBackWrongFalsely : Prop := fnKeyShareServerBackRow.holds Tryd.pinned (OpenSpec.ofChange fnKeyShareServerBackWrong)

/-- 'laws.FnSignatureAlgorithmsBack': WHATEVER THE INPUT: true; the input reads as it did. -/
def fnSignatureAlgorithmsBackSpec : ChangeSpec := { name := "fnSignatureAlgorithmsBack", fn := fun _ => fun
  | [d] => { results := [.lit (.bool true)], args := [d] }
  | _ => none }
def fnSignatureAlgorithmsBackRow : OpenClaim := { program := "ytgjlnkciemdklaadoor", sum := "2da638f75b67235a67c7a6d99625fff9e886df0e147c576dea600a349a190d92", func := "pub-convoy/laws.FnSignatureAlgorithmsBack", spec := "fnSignatureAlgorithmsBack", unfollowed := true, recurses := true, named := ["pub-convoy/pub/dtls/pkg/protocol/extension.errInvalidExtensionType", "pub-convoy/pub/dtls/pkg/protocol/extension.errBufferTooSmall", "pub-convoy/pub/dtls/pkg/protocol/extension.errLengthMismatch", "pub-convoy/pub/dtls/pkg/crypto/signaturehash.errInvalidHashAlgorithm", "pub-convoy/pub/dtls/pkg/crypto/signaturehash.errInvalidSignatureAlgorithm"], apart := false, laid := [("pub-convoy/pub/dtls/pkg/crypto/signaturehash.errInvalidSignatureAlgorithm", laid_pub_convoy_pub_dtls_pkg_crypto_signaturehash_errInvalidSignatureAlgorithm), ("pub-convoy/pub/dtls/pkg/crypto/signaturehash.errInvalidHashAlgorithm", laid_pub_convoy_pub_dtls_pkg_crypto_signaturehash_errInvalidHashAlgorithm), ("pub-convoy/pub/dtls/pkg/protocol/extension.errBufferTooSmall", laid_pub_convoy_pub_dtls_pkg_protocol_extension_errBufferTooSmall), ("pub-convoy/pub/dtls/pkg/protocol/extension.errInvalidExtensionType", laid_pub_convoy_pub_dtls_pkg_protocol_extension_errInvalidExtensionType), ("pub-convoy/pub/dtls/pkg/protocol/extension.errLengthMismatch", laid_pub_convoy_pub_dtls_pkg_protocol_extension_errLengthMismatch)] }
def FnSignatureAlgorithmsBackSaid : Prop := fnSignatureAlgorithmsBackRow.holds Tryd.pinned (OpenSpec.ofChange fnSignatureAlgorithmsBackSpec)

/-- ITS FALSE NEIGHBOUR: 'it returns false'. Refute it at one input. -/
def fnSignatureAlgorithmsBackWrong : ChangeSpec := { name := "fnSignatureAlgorithmsBack", fn := fun _ => fun
  | [d] => { results := [.lit (.bool false)], args := [d] }
  | _ => none }
def FnSignatureAlgorithmsBackWrongFalsely : Prop := fnSignatureAlgorithmsBackRow.holds Tryd.pinned (OpenSpec.ofChange fnSignatureAlgorithmsBackWrong)

/-- 'laws.FnSignatureAlgorithmsCertCut': WHATEVER THE INPUT: true; the input reads as it did. -/
def fnSignatureAlgorithmsCertCutSpec : ChangeSpec := { name := "fnSignatureAlgorithmsCertCut", fn := fun _ => fun
  | [d1, d2] => { results := [.lit (.bool true)], args := [d1, d2] }
  | _ => none }
def fnSignatureAlgorithmsCertCutRow : OpenClaim := { program := "ytgjlnkciemdklaadoor", sum := "2da638f75b67235a67c7a6d99625fff9e886df0e147c576dea600a349a190d92", func := "pub-convoy/laws.FnSignatureAlgorithmsCertCut", spec := "fnSignatureAlgorithmsCertCut", named := ["pub-convoy/pub/dtls/pkg/protocol/extension.errInvalidExtensionType", "pub-convoy/pub/dtls/pkg/protocol/extension.errBufferTooSmall", "pub-convoy/pub/dtls/pkg/protocol/extension.errLengthMismatch", "pub-convoy/pub/dtls/pkg/crypto/signaturehash.errInvalidHashAlgorithm", "pub-convoy/pub/dtls/pkg/crypto/signaturehash.errInvalidSignatureAlgorithm"], apart := false, laid := [("pub-convoy/pub/dtls/pkg/crypto/signaturehash.errInvalidSignatureAlgorithm", laid_pub_convoy_pub_dtls_pkg_crypto_signaturehash_errInvalidSignatureAlgorithm), ("pub-convoy/pub/dtls/pkg/crypto/signaturehash.errInvalidHashAlgorithm", laid_pub_convoy_pub_dtls_pkg_crypto_signaturehash_errInvalidHashAlgorithm), ("pub-convoy/pub/dtls/pkg/protocol/extension.errBufferTooSmall", laid_pub_convoy_pub_dtls_pkg_protocol_extension_errBufferTooSmall), ("pub-convoy/pub/dtls/pkg/protocol/extension.errInvalidExtensionType", laid_pub_convoy_pub_dtls_pkg_protocol_extension_errInvalidExtensionType), ("pub-convoy/pub/dtls/pkg/protocol/extension.errLengthMismatch", laid_pub_convoy_pub_dtls_pkg_protocol_extension_errLengthMismatch)] }
def FnSignatureAlgorithmsCertCutSaid : Prop := fnSignatureAlgorithmsCertCutRow.holds Tryd.pinned (OpenSpec.ofChange fnSignatureAlgorithmsCertCutSpec)

/-- ITS FALSE NEIGHBOUR: 'it returns false'. Refute it at one input. -/
def fnSignatureAlgorithmsCertCutWrong : ChangeSpec := { name := "fnSignatureAlgorithmsCertCut", fn := fun _ => fun
  | [d1, d2] => { results := [.lit (.bool false)], args := [d1, d2] }
  | _ => none }
def FnSignatureAlgorithmsCertCutWrongFalsely : Prop := fnSignatureAlgorithmsCertCutRow.holds Tryd.pinned (OpenSpec.ofChange fnSignatureAlgorithmsCertCutWrong)

/- THE SECOND FORM. 'bulk': how many values and letters a reading holds, each counted each time it is reached (what is shared counts as often as it is met; a slice's spare places count too). A statement '..UptoSaid' is the law's where the arguments, and the package variables that the reading takes, are together of bulk at most 1048576: NARROWER than '..Said'. Prove '..Said' where nothing that the law and all that it calls make is longer than what came in: it says more and counts as full. Else prove '..UptoSaid'. A law counts once. -/
mutual
def uptoBulk {H : Type} : DataW H → Nat
  | .lit (.string bytes) => bytes.length + 1
  | .lit _ => 1
  | .nil => 1
  | .ptr d => uptoBulk d + 1
  | .slice elems spare => uptoBulkAll elems + uptoBulkAll spare + 1
  | .agg parts => uptoBulkAll parts + 1
  | .iface _ d => uptoBulk d + 1
  | .map entries => uptoBulkEntries entries + 1
  | .held _ => 1
def uptoBulkAll {H : Type} : List (DataW H) → Nat
  | [] => 0
  | d :: r => uptoBulk d + uptoBulkAll r
def uptoBulkEntries {H : Type} : List (Lit × DataW H) → Nat
  | [] => 0
  | x :: r => uptoBulkEntry x + uptoBulkEntries r
def uptoBulkEntry {H : Type} : Lit × DataW H → Nat
  | (.string bytes, d) => bytes.length + uptoBulk d + 1
  | (_, d) => uptoBulk d + 1
 end
def uptoSmall : (H : Type) → List (DataW H) → Bool := fun _ ds => decide (uptoBulkAll ds ≤ 1048576)
def OpenSpec.upto (s : _root_.Go.ChangeSpec) : _root_.Go.OpenSpec := { _root_.Go.OpenSpec.ofChange s with cond := some uptoSmall }

/-- 'laws.FnInnerBack', WHERE WHAT IT READS IS OF BULK AT MOST 1048576: true; the input reads as it did. -/
def fnInnerBackUptoRow : OpenClaim := { program := "ytgjlnkciemdklaadoor", sum := "2da638f75b67235a67c7a6d99625fff9e886df0e147c576dea600a349a190d92", func := "pub-convoy/laws.FnInnerBack", spec := "fnInnerBack", named := ["pub-convoy/pub/dtls/pkg/protocol/recordlayer.errBufferTooSmall"], apart := false, laid := [("pub-convoy/pub/dtls/pkg/protocol/recordlayer.errBufferTooSmall", laid_pub_convoy_pub_dtls_pkg_protocol_recordlayer_errBufferTooSmall)], narrowed := true }
def FnInnerBackUptoSaid : Prop := fnInnerBackUptoRow.holds Tryd.pinned (OpenSpec.upto fnInnerBackSpec)

/-- 'laws.FnEarlyDataCut', WHERE WHAT IT READS IS OF BULK AT MOST 1048576: true; the input reads as it did. -/
def fnEarlyDataCutUptoRow : OpenClaim := { program := "ytgjlnkciemdklaadoor", sum := "2da638f75b67235a67c7a6d99625fff9e886df0e147c576dea600a349a190d92", func := "pub-convoy/laws.FnEarlyDataCut", spec := "fnEarlyDataCut", named := ["pub-convoy/pub/dtls/pkg/protocol/extension.errInvalidExtensionType", "pub-convoy/pub/dtls/pkg/protocol/extension.errBufferTooSmall", "pub-convoy/pub/dtls/pkg/protocol/extension.errEarlyDataIndicationFormat"], apart := false, laid := [("pub-convoy/pub/dtls/pkg/protocol/extension.errBufferTooSmall", laid_pub_convoy_pub_dtls_pkg_protocol_extension_errBufferTooSmall), ("pub-convoy/pub/dtls/pkg/protocol/extension.errInvalidExtensionType", laid_pub_convoy_pub_dtls_pkg_protocol_extension_errInvalidExtensionType), ("pub-convoy/pub/dtls/pkg/protocol/extension.errEarlyDataIndicationFormat", laid_pub_convoy_pub_dtls_pkg_protocol_extension_errEarlyDataIndicationFormat)], narrowed := true }
def FnEarlyDataCutUptoSaid : Prop := fnEarlyDataCutUptoRow.holds Tryd.pinned (OpenSpec.upto fnEarlyDataCutSpec)

/-- 'laws.FnConnectionIDCut', WHERE WHAT IT READS IS OF BULK AT MOST 1048576: true; the input reads as it did. -/
def fnConnectionIDCutUptoRow : OpenClaim := { program := "ytgjlnkciemdklaadoor", sum := "2da638f75b67235a67c7a6d99625fff9e886df0e147c576dea600a349a190d92", func := "pub-convoy/laws.FnConnectionIDCut", spec := "fnConnectionIDCut", named := ["pub-convoy/pub/dtls/pkg/protocol/extension.errInvalidExtensionType", "pub-convoy/pub/dtls/pkg/protocol/extension.errBufferTooSmall", "pub-convoy/pub/dtls/pkg/protocol/extension.errInvalidCIDFormat", "pub-convoy/pub/dtls/pkg/protocol/extension.errLengthMismatch"], apart := false, laid := [("pub-convoy/pub/dtls/pkg/protocol/extension.errBufferTooSmall", laid_pub_convoy_pub_dtls_pkg_protocol_extension_errBufferTooSmall), ("pub-convoy/pub/dtls/pkg/protocol/extension.errInvalidExtensionType", laid_pub_convoy_pub_dtls_pkg_protocol_extension_errInvalidExtensionType), ("pub-convoy/pub/dtls/pkg/protocol/extension.errInvalidCIDFormat", laid_pub_convoy_pub_dtls_pkg_protocol_extension_errInvalidCIDFormat), ("pub-convoy/pub/dtls/pkg/protocol/extension.errLengthMismatch", laid_pub_convoy_pub_dtls_pkg_protocol_extension_errLengthMismatch)], narrowed := true }
def FnConnectionIDCutUptoSaid : Prop := fnConnectionIDCutUptoRow.holds Tryd.pinned (OpenSpec.upto fnConnectionIDCutSpec)

/-- 'laws.FnOIDFiltersBack', WHERE WHAT IT READS IS OF BULK AT MOST 1048576: true; the input reads as it did. -/
def fnOIDFiltersBackUptoRow : OpenClaim := { program := "ytgjlnkciemdklaadoor", sum := "2da638f75b67235a67c7a6d99625fff9e886df0e147c576dea600a349a190d92", func := "pub-convoy/laws.FnOIDFiltersBack", spec := "fnOIDFiltersBack", unfollowed := true, recurses := true, named := ["pub-convoy/pub/dtls/pkg/protocol/extension.errInvalidExtensionType", "pub-convoy/pub/dtls/pkg/protocol/extension.errBufferTooSmall", "pub-convoy/pub/dtls/pkg/protocol/extension.errLengthMismatch", "pub-convoy/pub/dtls/pkg/protocol/extension.errOIDFiltersFormat", "pub-convoy/pub/dtls/pkg/protocol/extension.errDuplicateOID"], apart := false, laid := [("pub-convoy/pub/dtls/pkg/protocol/extension.errBufferTooSmall", laid_pub_convoy_pub_dtls_pkg_protocol_extension_errBufferTooSmall), ("pub-convoy/pub/dtls/pkg/protocol/extension.errInvalidExtensionType", laid_pub_convoy_pub_dtls_pkg_protocol_extension_errInvalidExtensionType), ("pub-convoy/pub/dtls/pkg/protocol/extension.errLengthMismatch", laid_pub_convoy_pub_dtls_pkg_protocol_extension_errLengthMismatch), ("pub-convoy/pub/dtls/pkg/protocol/extension.errOIDFiltersFormat", laid_pub_convoy_pub_dtls_pkg_protocol_extension_errOIDFiltersFormat), ("pub-convoy/pub/dtls/pkg/protocol/extension.errDuplicateOID", laid_pub_convoy_pub_dtls_pkg_protocol_extension_errDuplicateOID)], narrowed := true }
def FnOIDFiltersBackUptoSaid : Prop := fnOIDFiltersBackUptoRow.holds Tryd.pinned (OpenSpec.upto fnOIDFiltersBackSpec)

/-- 'laws.FnHeaderRead', WHERE WHAT IT READS IS OF BULK AT MOST 1048576: true; the input reads as it did. -/
def fnHeaderReadUptoRow : OpenClaim := { program := "ytgjlnkciemdklaadoor", sum := "2da638f75b67235a67c7a6d99625fff9e886df0e147c576dea600a349a190d92", func := "pub-convoy/laws.FnHeaderRead", spec := "fnHeaderRead", named := ["pub-convoy/pub/dtls/pkg/protocol/recordlayer.errBufferTooSmall", "encoding/binary.BigEndian", "pub-convoy/pub/dtls/pkg/protocol.Version1_0", "pub-convoy/pub/dtls/pkg/protocol.Version1_2", "pub-convoy/pub/dtls/pkg/protocol/recordlayer.errUnsupportedProtocolVersion", "pub-convoy/pub/dtls/pkg/protocol/recordlayer.errSequenceNumberOverflow"], apart := false, laid := [("pub-convoy/pub/dtls/pkg/protocol.Version1_0", laid_pub_convoy_pub_dtls_pkg_protocol_Version1_0), ("pub-convoy/pub/dtls/pkg/protocol.Version1_2", laid_pub_convoy_pub_dtls_pkg_protocol_Version1_2), ("pub-convoy/pub/dtls/pkg/protocol/recordlayer.errBufferTooSmall", laid_pub_convoy_pub_dtls_pkg_protocol_recordlayer_errBufferTooSmall), ("pub-convoy/pub/dtls/pkg/protocol/recordlayer.errSequenceNumberOverflow", laid_pub_convoy_pub_dtls_pkg_protocol_recordlayer_errSequenceNumberOverflow), ("pub-convoy/pub/dtls/pkg/protocol/recordlayer.errUnsupportedProtocolVersion", laid_pub_convoy_pub_dtls_pkg_protocol_recordlayer_errUnsupportedProtocolVersion)], narrowed := true }
def FnHeaderReadUptoSaid : Prop := fnHeaderReadUptoRow.holds Tryd.pinned (OpenSpec.upto fnHeaderReadSpec)

/-- 'laws.FnServerNameCut', WHERE WHAT IT READS IS OF BULK AT MOST 1048576: true; the input reads as it did. -/
def fnServerNameCutUptoRow : OpenClaim := { program := "ytgjlnkciemdklaadoor", sum := "2da638f75b67235a67c7a6d99625fff9e886df0e147c576dea600a349a190d92", func := "pub-convoy/laws.FnServerNameCut", spec := "fnServerNameCut", named := ["pub-convoy/pub/dtls/pkg/protocol/extension.errInvalidExtensionType", "pub-convoy/pub/dtls/pkg/protocol/extension.errBufferTooSmall", "pub-convoy/pub/dtls/pkg/protocol/extension.errInvalidSNIFormat", "pub-convoy/pub/dtls/pkg/protocol/extension.errLengthMismatch"], apart := false, laid := [("pub-convoy/pub/dtls/pkg/protocol/extension.errBufferTooSmall", laid_pub_convoy_pub_dtls_pkg_protocol_extension_errBufferTooSmall), ("pub-convoy/pub/dtls/pkg/protocol/extension.errInvalidExtensionType", laid_pub_convoy_pub_dtls_pkg_protocol_extension_errInvalidExtensionType), ("pub-convoy/pub/dtls/pkg/protocol/extension.errInvalidSNIFormat", laid_pub_convoy_pub_dtls_pkg_protocol_extension_errInvalidSNIFormat), ("pub-convoy/pub/dtls/pkg/protocol/extension.errLengthMismatch", laid_pub_convoy_pub_dtls_pkg_protocol_extension_errLengthMismatch)], narrowed := true }
def FnServerNameCutUptoSaid : Prop := fnServerNameCutUptoRow.holds Tryd.pinned (OpenSpec.upto fnServerNameCutSpec)

/-- 'laws.FnServerNameRefused', WHERE WHAT IT READS IS OF BULK AT MOST 1048576: true; the input reads as it did. -/
def fnServerNameRefusedUptoRow : OpenClaim := { program := "ytgjlnkciemdklaadoor", sum := "2da638f75b67235a67c7a6d99625fff9e886df0e147c576dea600a349a190d92", func := "pub-convoy/laws.FnServerNameRefused", spec := "fnServerNameRefused", named := ["pub-convoy/pub/dtls/pkg/protocol/extension.errInvalidExtensionType", "pub-convoy/pub/dtls/pkg/protocol/extension.errBufferTooSmall", "pub-convoy/pub/dtls/pkg/protocol/extension.errInvalidSNIFormat", "pub-convoy/pub/dtls/pkg/protocol/extension.errLengthMismatch"], apart := false, laid := [("pub-convoy/pub/dtls/pkg/protocol/extension.errBufferTooSmall", laid_pub_convoy_pub_dtls_pkg_protocol_extension_errBufferTooSmall), ("pub-convoy/pub/dtls/pkg/protocol/extension.errInvalidExtensionType", laid_pub_convoy_pub_dtls_pkg_protocol_extension_errInvalidExtensionType), ("pub-convoy/pub/dtls/pkg/protocol/extension.errInvalidSNIFormat", laid_pub_convoy_pub_dtls_pkg_protocol_extension_errInvalidSNIFormat), ("pub-convoy/pub/dtls/pkg/protocol/extension.errLengthMismatch", laid_pub_convoy_pub_dtls_pkg_protocol_extension_errLengthMismatch)], narrowed := true }
def FnServerNameRefusedUptoSaid : Prop := fnServerNameRefusedUptoRow.holds Tryd.pinned (OpenSpec.upto fnServerNameRefusedSpec)

/-- 'laws.FnPreSharedKeySelectedBack', WHERE WHAT IT READS IS OF BULK AT MOST 1048576: true; the input reads as it did. -/
def fnPreSharedKeySelectedBackUptoRow : OpenClaim := { program := "ytgjlnkciemdklaadoor", sum := "2da638f75b67235a67c7a6d99625fff9e886df0e147c576dea600a349a190d92", func := "pub-convoy/laws.FnPreSharedKeySelectedBack", spec := "fnPreSharedKeySelectedBack", unfollowed := true, recurses := true, named := ["pub-convoy/pub/dtls/pkg/protocol/extension.errInvalidExtensionType", "pub-convoy/pub/dtls/pkg/protocol/extension.errBufferTooSmall", "pub-convoy/pub/dtls/pkg/protocol/extension.errPreSharedKeyFormat", "pub-convoy/pub/dtls/pkg/protocol/extension.errLengthMismatch"], apart := false, laid := [("pub-convoy/pub/dtls/pkg/protocol/extension.errBufferTooSmall", laid_pub_convoy_pub_dtls_pkg_protocol_extension_errBufferTooSmall), ("pub-convoy/pub/dtls/pkg/protocol/extension.errInvalidExtensionType", laid_pub_convoy_pub_dtls_pkg_protocol_extension_errInvalidExtensionType), ("pub-convoy/pub/dtls/pkg/protocol/extension.errLengthMismatch", laid_pub_convoy_pub_dtls_pkg_protocol_extension_errLengthMismatch), ("pub-convoy/pub/dtls/pkg/protocol/extension.errPreSharedKeyFormat", laid_pub_convoy_pub_dtls_pkg_protocol_extension_errPreSharedKeyFormat)], narrowed := true }
def FnPreSharedKeySelectedBackUptoSaid : Prop := fnPreSharedKeySelectedBackUptoRow.holds Tryd.pinned (OpenSpec.upto fnPreSharedKeySelectedBackSpec)

/-- 'laws.FnKeyShareGroupCut', WHERE WHAT IT READS IS OF BULK AT MOST 1048576: true; the input reads as it did. -/
def fnKeyShareGroupCutUptoRow : OpenClaim := { program := "ytgjlnkciemdklaadoor", sum := "2da638f75b67235a67c7a6d99625fff9e886df0e147c576dea600a349a190d92", func := "pub-convoy/laws.FnKeyShareGroupCut", spec := "fnKeyShareGroupCut", named := ["pub-convoy/pub/dtls/pkg/protocol/extension.errInvalidExtensionType", "pub-convoy/pub/dtls/pkg/protocol/extension.errBufferTooSmall", "pub-convoy/pub/dtls/pkg/protocol/extension.errInvalidKeyShareFormat", "pub-convoy/pub/dtls/pkg/protocol/extension.errDuplicateKeyShare"], apart := false, laid := [("pub-convoy/pub/dtls/pkg/protocol/extension.errBufferTooSmall", laid_pub_convoy_pub_dtls_pkg_protocol_extension_errBufferTooSmall), ("pub-convoy/pub/dtls/pkg/protocol/extension.errInvalidExtensionType", laid_pub_convoy_pub_dtls_pkg_protocol_extension_errInvalidExtensionType), ("pub-convoy/pub/dtls/pkg/protocol/extension.errInvalidKeyShareFormat", laid_pub_convoy_pub_dtls_pkg_protocol_extension_errInvalidKeyShareFormat), ("pub-convoy/pub/dtls/pkg/protocol/extension.errDuplicateKeyShare", laid_pub_convoy_pub_dtls_pkg_protocol_extension_errDuplicateKeyShare)], narrowed := true }
def FnKeyShareGroupCutUptoSaid : Prop := fnKeyShareGroupCutUptoRow.holds Tryd.pinned (OpenSpec.upto fnKeyShareGroupCutSpec)

/-- 'laws.FnKeyShareServerBack', WHERE WHAT IT READS IS OF BULK AT MOST 1048576: true; the input reads as it did. -/
def fnKeyShareServerBackUptoRow : OpenClaim := { program := "ytgjlnkciemdklaadoor", sum := "2da638f75b67235a67c7a6d99625fff9e886df0e147c576dea600a349a190d92", func := "pub-convoy/laws.FnKeyShareServerBack", spec := "fnKeyShareServerBack", unfollowed := true, recurses := true, named := ["pub-convoy/pub/dtls/pkg/protocol/extension.errInvalidExtensionType", "pub-convoy/pub/dtls/pkg/protocol/extension.errBufferTooSmall", "pub-convoy/pub/dtls/pkg/protocol/extension.errInvalidKeyShareFormat", "pub-convoy/pub/dtls/pkg/protocol/extension.errDuplicateKeyShare"], apart := false, laid := [("pub-convoy/pub/dtls/pkg/protocol/extension.errBufferTooSmall", laid_pub_convoy_pub_dtls_pkg_protocol_extension_errBufferTooSmall), ("pub-convoy/pub/dtls/pkg/protocol/extension.errInvalidExtensionType", laid_pub_convoy_pub_dtls_pkg_protocol_extension_errInvalidExtensionType), ("pub-convoy/pub/dtls/pkg/protocol/extension.errInvalidKeyShareFormat", laid_pub_convoy_pub_dtls_pkg_protocol_extension_errInvalidKeyShareFormat), ("pub-convoy/pub/dtls/pkg/protocol/extension.errDuplicateKeyShare", laid_pub_convoy_pub_dtls_pkg_protocol_extension_errDuplicateKeyShare)], narrowed := true }
def FnKeyShareServerBackUptoSaid : Prop := fnKeyShareServerBackUptoRow.holds Tryd.pinned (OpenSpec.upto fnKeyShareServerBackSpec)

/-- 'laws.FnSignatureAlgorithmsBack', WHERE WHAT IT READS IS OF BULK AT MOST 1048576: true; the input reads as it did. -/
def fnSignatureAlgorithmsBackUptoRow : OpenClaim := { program := "ytgjlnkciemdklaadoor", sum := "2da638f75b67235a67c7a6d99625fff9e886df0e147c576dea600a349a190d92", func := "pub-convoy/laws.FnSignatureAlgorithmsBack", spec := "fnSignatureAlgorithmsBack", unfollowed := true, recurses := true, named := ["pub-convoy/pub/dtls/pkg/protocol/extension.errInvalidExtensionType", "pub-convoy/pub/dtls/pkg/protocol/extension.errBufferTooSmall", "pub-convoy/pub/dtls/pkg/protocol/extension.errLengthMismatch", "pub-convoy/pub/dtls/pkg/crypto/signaturehash.errInvalidHashAlgorithm", "pub-convoy/pub/dtls/pkg/crypto/signaturehash.errInvalidSignatureAlgorithm"], apart := false, laid := [("pub-convoy/pub/dtls/pkg/crypto/signaturehash.errInvalidSignatureAlgorithm", laid_pub_convoy_pub_dtls_pkg_crypto_signaturehash_errInvalidSignatureAlgorithm), ("pub-convoy/pub/dtls/pkg/crypto/signaturehash.errInvalidHashAlgorithm", laid_pub_convoy_pub_dtls_pkg_crypto_signaturehash_errInvalidHashAlgorithm), ("pub-convoy/pub/dtls/pkg/protocol/extension.errBufferTooSmall", laid_pub_convoy_pub_dtls_pkg_protocol_extension_errBufferTooSmall), ("pub-convoy/pub/dtls/pkg/protocol/extension.errInvalidExtensionType", laid_pub_convoy_pub_dtls_pkg_protocol_extension_errInvalidExtensionType), ("pub-convoy/pub/dtls/pkg/protocol/extension.errLengthMismatch", laid_pub_convoy_pub_dtls_pkg_protocol_extension_errLengthMismatch)], narrowed := true }
def FnSignatureAlgorithmsBackUptoSaid : Prop := fnSignatureAlgorithmsBackUptoRow.holds Tryd.pinned (OpenSpec.upto fnSignatureAlgorithmsBackSpec)

/-- 'laws.FnSignatureAlgorithmsCertCut', WHERE WHAT IT READS IS OF BULK AT MOST 1048576: true; the input reads as it did. -/
def fnSignatureAlgorithmsCertCutUptoRow : OpenClaim := { program := "ytgjlnkciemdklaadoor", sum := "2da638f75b67235a67c7a6d99625fff9e886df0e147c576dea600a349a190d92", func := "pub-convoy/laws.FnSignatureAlgorithmsCertCut", spec := "fnSignatureAlgorithmsCertCut", named := ["pub-convoy/pub/dtls/pkg/protocol/extension.errInvalidExtensionType", "pub-convoy/pub/dtls/pkg/protocol/extension.errBufferTooSmall", "pub-convoy/pub/dtls/pkg/protocol/extension.errLengthMismatch", "pub-convoy/pub/dtls/pkg/crypto/signaturehash.errInvalidHashAlgorithm", "pub-convoy/pub/dtls/pkg/crypto/signaturehash.errInvalidSignatureAlgorithm"], apart := false, laid := [("pub-convoy/pub/dtls/pkg/crypto/signaturehash.errInvalidSignatureAlgorithm", laid_pub_convoy_pub_dtls_pkg_crypto_signaturehash_errInvalidSignatureAlgorithm), ("pub-convoy/pub/dtls/pkg/crypto/signaturehash.errInvalidHashAlgorithm", laid_pub_convoy_pub_dtls_pkg_crypto_signaturehash_errInvalidHashAlgorithm), ("pub-convoy/pub/dtls/pkg/protocol/extension.errBufferTooSmall", laid_pub_convoy_pub_dtls_pkg_protocol_extension_errBufferTooSmall), ("pub-convoy/pub/dtls/pkg/protocol/extension.errInvalidExtensionType", laid_pub_convoy_pub_dtls_pkg_protocol_extension_errInvalidExtensionType), ("pub-convoy/pub/dtls/pkg/protocol/extension.errLengthMismatch", laid_pub_convoy_pub_dtls_pkg_protocol_extension_errLengthMismatch)], narrowed := true }
def FnSignatureAlgorithmsCertCutUptoSaid : Prop := fnSignatureAlgorithmsCertCutUptoRow.holds Tryd.pinned (OpenSpec.upto fnSignatureAlgorithmsCertCutSpec)

end Rows
end Go.Proofs.YtgjlnkciemdklaaDoor
