/-
  NARROWER THAN 'FOR EVERY INPUT', by the rows' own cells (each row's printed sentence says how): FnCipherSpec: laid · FnVerifyRequestCut: laid · FnChooseProtocol: laid · FnRenegotiationBack: laid · FnDatagramWhole: laid · FnPointFormatsWrite: laid · FnSuitesBack: laid · FnCcmSizes: laid · FnClientKeyPskCut: laid · FnClientKeyBothWrite: laid.
  DERIVED. THE GIVEN ROWS OF THIS SEAT. 10 by the template 'for every input the law returns true; each argument reads behind the call as it read before'; 0 by the template 'total and deterministic' (their statements: YtdkncgggjhiphaaDoorTotals.lean).
  GIVEN WITH THE SEED: the statements are not yours to turn. If you find one false, say at which input.
  Laid BY PROGRAM, IN A SANDBOX (cutbox-rows.mjs): the forced cells as the released guide's own fill.sh prints them over the translation 3366c62916d754c9… (all of the seat's roots in one cut). By AI agents, Wed Nov 11 2026. No macro, syntax, notation, axiom, sorry.
-/
import Derived.Test.YtdkncgggjhiphaaDoorChecked
import GoSem.Claim
import GoSem.ClaimJoined
import GoSem.ClaimMapViews
import Derived.JoinedTies
import Derived.KernelRfl
namespace Go.Proofs.YtdkncgggjhiphaaDoor
/- THE CELL 'sum', in the pinned program and in every row, IS THE sha256 OF THE DUMP (.gsa) THAT YtdkncgggjhiphaaDoorProg.lean LOADS. Nothing in Lean hashes anything: it is a label: what it is worth is what the hold of that sum in a sandbox is worth. -/
noncomputable def Tryd.pinned : Pinned := { name := "ytdkncgggjhiphaadoor", sum := "3366c62916d754c97921e25cee5ef7b9f96ea2d792fd724ba644c3649b8e202e", checked := Tryd.checked }
namespace Rows
def none {H : Type} : Left H := { results := [], args := [] }

/- WHAT THE LISTED PACKAGE-LEVEL VARIABLES READ AS WHEN THE CALL BEGINS. Each datum BY PROGRAM (the guide's laid-datum.mjs) off the statement by which the dump's own 'gosem.cut.vars' lays the variable. In a bare row this is a premise. The card (YtdkncgggjhiphaaDoorCards.lean) ties it to the program's text. -/
def laid_pub_convoy_pub_dtls_pkg_protocol_errInvalidCipherSpec {H : Type} : DataW H := .iface "*errors.errorString" (.ptr (.agg [.lit (.string [99, 105, 112, 104, 101, 114, 32, 115, 112, 101, 99, 32, 105, 110, 118, 97, 108, 105, 100])]))
def laid_pub_convoy_pub_dtls_pkg_protocol_handshake_errBufferTooSmall {H : Type} : DataW H := .iface "*errors.errorString" (.ptr (.agg [.lit (.string [98, 117, 102, 102, 101, 114, 32, 105, 115, 32, 116, 111, 111, 32, 115, 109, 97, 108, 108])]))
def laid_pub_convoy_pub_dtls_pkg_protocol_extension_errALPNNoAppProto {H : Type} : DataW H := .iface "*errors.errorString" (.ptr (.agg [.lit (.string [110, 111, 32, 97, 112, 112, 108, 105, 99, 97, 116, 105, 111, 110, 32, 112, 114, 111, 116, 111, 99, 111, 108])]))
def laid_pub_convoy_pub_dtls_pkg_protocol_extension_errBufferTooSmall {H : Type} : DataW H := .iface "*errors.errorString" (.ptr (.agg [.lit (.string [98, 117, 102, 102, 101, 114, 32, 105, 115, 32, 116, 111, 111, 32, 115, 109, 97, 108, 108])]))
def laid_pub_convoy_pub_dtls_pkg_protocol_extension_errInvalidExtensionType {H : Type} : DataW H := .iface "*errors.errorString" (.ptr (.agg [.lit (.string [105, 110, 118, 97, 108, 105, 100, 32, 101, 120, 116, 101, 110, 115, 105, 111, 110, 32, 116, 121, 112, 101])]))
def laid_pub_convoy_pub_dtls_pkg_protocol_extension_errLengthMismatch {H : Type} : DataW H := .iface "*errors.errorString" (.ptr (.agg [.lit (.string [100, 97, 116, 97, 32, 108, 101, 110, 103, 116, 104, 32, 97, 110, 100, 32, 100, 101, 99, 108, 97, 114, 101, 100, 32, 108, 101, 110, 103, 116, 104, 32, 100, 111, 32, 110, 111, 116, 32, 109, 97, 116, 99, 104])]))
def laid_pub_convoy_pub_dtls_pkg_protocol_recordlayer_ErrInvalidPacketLength {H : Type} : DataW H := .iface "*errors.errorString" (.ptr (.agg [.lit (.string [112, 97, 99, 107, 101, 116, 32, 108, 101, 110, 103, 116, 104, 32, 97, 110, 100, 32, 100, 101, 99, 108, 97, 114, 101, 100, 32, 108, 101, 110, 103, 116, 104, 32, 100, 111, 32, 110, 111, 116, 32, 109, 97, 116, 99, 104])]))
def laid_pub_convoy_pub_dtls_pkg_protocol_extension_errPointFormatsTooLarge {H : Type} : DataW H := .iface "*errors.errorString" (.ptr (.agg [.lit (.string [112, 111, 105, 110, 116, 32, 102, 111, 114, 109, 97, 116, 115, 32, 109, 117, 115, 116, 32, 110, 111, 116, 32, 98, 101, 32, 108, 111, 110, 103, 101, 114, 32, 116, 104, 97, 110, 32, 50, 53, 53, 32])]))
def laid_pub_convoy_pub_dtls_pkg_crypto_ccm_errInvalidBlockSize {H : Type} : DataW H := .iface "*errors.errorString" (.ptr (.agg [.lit (.string [99, 99, 109, 58, 32, 78, 101, 119, 67, 67, 77, 32, 114, 101, 113, 117, 105, 114, 101, 115, 32, 49, 50, 56, 45, 98, 105, 116, 32, 98, 108, 111, 99, 107, 32, 99, 105, 112, 104, 101, 114])]))
def laid_pub_convoy_pub_dtls_pkg_crypto_ccm_errInvalidTagSize {H : Type} : DataW H := .iface "*errors.errorString" (.ptr (.agg [.lit (.string [99, 99, 109, 58, 32, 116, 97, 103, 115, 105, 122, 101, 32, 109, 117, 115, 116, 32, 98, 101, 32, 52, 44, 32, 54, 44, 32, 56, 44, 32, 49, 48, 44, 32, 49, 50, 44, 32, 49, 52, 44, 32, 111, 114, 32, 49, 54])]))
def laid_pub_convoy_pub_dtls_pkg_crypto_ccm_errInvalidNonceSize {H : Type} : DataW H := .iface "*errors.errorString" (.ptr (.agg [.lit (.string [99, 99, 109, 58, 32, 105, 110, 118, 97, 108, 105, 100, 32, 110, 111, 110, 99, 101, 32, 115, 105, 122, 101])]))
def laid_pub_convoy_pub_dtls_pkg_protocol_handshake_errCipherSuiteUnset {H : Type} : DataW H := .iface "*errors.errorString" (.ptr (.agg [.lit (.string [115, 101, 114, 118, 101, 114, 32, 104, 101, 108, 108, 111, 32, 99, 97, 110, 32, 110, 111, 116, 32, 98, 101, 32, 99, 114, 101, 97, 116, 101, 100, 32, 119, 105, 116, 104, 111, 117, 116, 32, 97, 32, 99, 105, 112, 104, 101, 114, 32, 115, 117, 105, 116, 101])]))
def laid_pub_convoy_pub_dtls_pkg_protocol_handshake_errInvalidClientKeyExchange {H : Type} : DataW H := .iface "*errors.errorString" (.ptr (.agg [.lit (.string [117, 110, 97, 98, 108, 101, 32, 116, 111, 32, 100, 101, 116, 101, 114, 109, 105, 110, 101, 32, 105, 102, 32, 67, 108, 105, 101, 110, 116, 75, 101, 121, 69, 120, 99, 104, 97, 110, 103, 101, 32, 105, 115, 32, 97, 32, 112, 117, 98, 108, 105, 99, 32, 107, 101, 121, 32, 111, 114, 32, 80, 83, 75, 32, 73, 100, 101, 110, 116, 105, 116, 121])]))
def laid_pub_convoy_pub_dtls_pkg_protocol_handshake_errPublicKeyTooLong {H : Type} : DataW H := .iface "*errors.errorString" (.ptr (.agg [.lit (.string [112, 117, 98, 108, 105, 99, 32, 107, 101, 121, 32, 109, 117, 115, 116, 32, 110, 111, 116, 32, 98, 101, 32, 108, 111, 110, 103, 101, 114, 32, 116, 104, 97, 110, 32, 50, 53, 53, 32, 98, 121, 116, 101, 115])]))

/-- 'laws.FnCipherSpec': WHATEVER THE INPUT: true; the input reads as it did. -/
def fnCipherSpecSpec : ChangeSpec := { name := "fnCipherSpec", fn := fun _ => fun
  | [d] => { results := [.lit (.bool true)], args := [d] }
  | _ => none }
def fnCipherSpecRow : OpenClaim := { program := "ytdkncgggjhiphaadoor", sum := "3366c62916d754c97921e25cee5ef7b9f96ea2d792fd724ba644c3649b8e202e", func := "pub-convoy/laws.FnCipherSpec", spec := "fnCipherSpec", named := ["pub-convoy/pub/dtls/pkg/protocol.errInvalidCipherSpec"], apart := false, laid := [("pub-convoy/pub/dtls/pkg/protocol.errInvalidCipherSpec", laid_pub_convoy_pub_dtls_pkg_protocol_errInvalidCipherSpec)] }
def FnCipherSpecSaid : Prop := fnCipherSpecRow.holds Tryd.pinned (OpenSpec.ofChange fnCipherSpecSpec)

/-- ITS FALSE NEIGHBOUR: 'it returns false'. Refute it at one input. -/
def fnCipherSpecWrong : ChangeSpec := { name := "fnCipherSpec", fn := fun _ => fun
  | [d] => { results := [.lit (.bool false)], args := [d] }
  | _ => none }
def FnCipherSpecWrongFalsely : Prop := fnCipherSpecRow.holds Tryd.pinned (OpenSpec.ofChange fnCipherSpecWrong)

/-- 'laws.FnVerifyRequestCut': WHATEVER THE INPUT: true; the input reads as it did. -/
def fnVerifyRequestCutSpec : ChangeSpec := { name := "fnVerifyRequestCut", fn := fun _ => fun
  | [d1, d2] => { results := [.lit (.bool true)], args := [d1, d2] }
  | _ => none }
def fnVerifyRequestCutRow : OpenClaim := { program := "ytdkncgggjhiphaadoor", sum := "3366c62916d754c97921e25cee5ef7b9f96ea2d792fd724ba644c3649b8e202e", func := "pub-convoy/laws.FnVerifyRequestCut", spec := "fnVerifyRequestCut", named := ["pub-convoy/pub/dtls/pkg/protocol/handshake.errBufferTooSmall"], apart := false, laid := [("pub-convoy/pub/dtls/pkg/protocol/handshake.errBufferTooSmall", laid_pub_convoy_pub_dtls_pkg_protocol_handshake_errBufferTooSmall)] }
def FnVerifyRequestCutSaid : Prop := fnVerifyRequestCutRow.holds Tryd.pinned (OpenSpec.ofChange fnVerifyRequestCutSpec)

/-- ITS FALSE NEIGHBOUR: 'it returns false'. Refute it at one input. -/
def fnVerifyRequestCutWrong : ChangeSpec := { name := "fnVerifyRequestCut", fn := fun _ => fun
  | [d1, d2] => { results := [.lit (.bool false)], args := [d1, d2] }
  | _ => none }
def FnVerifyRequestCutWrongFalsely : Prop := fnVerifyRequestCutRow.holds Tryd.pinned (OpenSpec.ofChange fnVerifyRequestCutWrong)

/-- 'laws.FnChooseProtocol': WHATEVER THE INPUT: true; the input reads as it did. -/
def fnChooseProtocolSpec : ChangeSpec := { name := "fnChooseProtocol", fn := fun _ => fun
  | [d1, d2] => { results := [.lit (.bool true)], args := [d1, d2] }
  | _ => none }
def fnChooseProtocolRow : OpenClaim := { program := "ytdkncgggjhiphaadoor", sum := "3366c62916d754c97921e25cee5ef7b9f96ea2d792fd724ba644c3649b8e202e", func := "pub-convoy/laws.FnChooseProtocol", spec := "fnChooseProtocol", named := ["pub-convoy/pub/dtls/pkg/protocol/extension.errALPNNoAppProto"], apart := false, laid := [("pub-convoy/pub/dtls/pkg/protocol/extension.errALPNNoAppProto", laid_pub_convoy_pub_dtls_pkg_protocol_extension_errALPNNoAppProto)] }
def FnChooseProtocolSaid : Prop := fnChooseProtocolRow.holds Tryd.pinned (OpenSpec.ofChange fnChooseProtocolSpec)

/-- ITS FALSE NEIGHBOUR: 'it returns false'. Refute it at one input. -/
def fnChooseProtocolWrong : ChangeSpec := { name := "fnChooseProtocol", fn := fun _ => fun
  | [d1, d2] => { results := [.lit (.bool false)], args := [d1, d2] }
  | _ => none }
def FnChooseProtocolWrongFalsely : Prop := fnChooseProtocolRow.holds Tryd.pinned (OpenSpec.ofChange fnChooseProtocolWrong)

/-- 'laws.FnRenegotiationBack': WHATEVER THE INPUT: true; the input reads as it did. -/
def fnRenegotiationBackSpec : ChangeSpec := { name := "fnRenegotiationBack", fn := fun _ => fun
  | [d] => { results := [.lit (.bool true)], args := [d] }
  | _ => none }
def fnRenegotiationBackRow : OpenClaim := { program := "ytdkncgggjhiphaadoor", sum := "3366c62916d754c97921e25cee5ef7b9f96ea2d792fd724ba644c3649b8e202e", func := "pub-convoy/laws.FnRenegotiationBack", spec := "fnRenegotiationBack", unfollowed := true, recurses := true, named := ["pub-convoy/pub/dtls/pkg/protocol/extension.errBufferTooSmall", "encoding/binary.BigEndian", "pub-convoy/pub/dtls/pkg/protocol/extension.errInvalidExtensionType", "pub-convoy/pub/dtls/pkg/protocol/extension.errLengthMismatch"], apart := false, laid := [("pub-convoy/pub/dtls/pkg/protocol/extension.errBufferTooSmall", laid_pub_convoy_pub_dtls_pkg_protocol_extension_errBufferTooSmall), ("pub-convoy/pub/dtls/pkg/protocol/extension.errInvalidExtensionType", laid_pub_convoy_pub_dtls_pkg_protocol_extension_errInvalidExtensionType), ("pub-convoy/pub/dtls/pkg/protocol/extension.errLengthMismatch", laid_pub_convoy_pub_dtls_pkg_protocol_extension_errLengthMismatch)] }
def FnRenegotiationBackSaid : Prop := fnRenegotiationBackRow.holds Tryd.pinned (OpenSpec.ofChange fnRenegotiationBackSpec)

/-- ITS FALSE NEIGHBOUR: 'it returns false'. Refute it at one input. -/
def fnRenegotiationBackWrong : ChangeSpec := { name := "fnRenegotiationBack", fn := fun _ => fun
  | [d] => { results := [.lit (.bool false)], args := [d] }
  | _ => none }
def FnRenegotiationBackWrongFalsely : Prop := fnRenegotiationBackRow.holds Tryd.pinned (OpenSpec.ofChange fnRenegotiationBackWrong)

/-- 'laws.FnDatagramWhole': WHATEVER THE INPUT: true; the input reads as it did. -/
def fnDatagramWholeSpec : ChangeSpec := { name := "fnDatagramWhole", fn := fun _ => fun
  | [d] => { results := [.lit (.bool true)], args := [d] }
  | _ => none }
def fnDatagramWholeRow : OpenClaim := { program := "ytdkncgggjhiphaadoor", sum := "3366c62916d754c97921e25cee5ef7b9f96ea2d792fd724ba644c3649b8e202e", func := "pub-convoy/laws.FnDatagramWhole", spec := "fnDatagramWhole", named := ["pub-convoy/pub/dtls/pkg/protocol/recordlayer.ErrInvalidPacketLength", "encoding/binary.BigEndian"], apart := false, laid := [("pub-convoy/pub/dtls/pkg/protocol/recordlayer.ErrInvalidPacketLength", laid_pub_convoy_pub_dtls_pkg_protocol_recordlayer_ErrInvalidPacketLength)] }
def FnDatagramWholeSaid : Prop := fnDatagramWholeRow.holds Tryd.pinned (OpenSpec.ofChange fnDatagramWholeSpec)

/-- ITS FALSE NEIGHBOUR: 'it returns false'. Refute it at one input. -/
def fnDatagramWholeWrong : ChangeSpec := { name := "fnDatagramWhole", fn := fun _ => fun
  | [d] => { results := [.lit (.bool false)], args := [d] }
  | _ => none }
def FnDatagramWholeWrongFalsely : Prop := fnDatagramWholeRow.holds Tryd.pinned (OpenSpec.ofChange fnDatagramWholeWrong)

/-- 'laws.FnPointFormatsWrite': WHATEVER THE INPUT: true; the input reads as it did. -/
def fnPointFormatsWriteSpec : ChangeSpec := { name := "fnPointFormatsWrite", fn := fun _ => fun
  | [d] => { results := [.lit (.bool true)], args := [d] }
  | _ => none }
def fnPointFormatsWriteRow : OpenClaim := { program := "ytdkncgggjhiphaadoor", sum := "3366c62916d754c97921e25cee5ef7b9f96ea2d792fd724ba644c3649b8e202e", func := "pub-convoy/laws.FnPointFormatsWrite", spec := "fnPointFormatsWrite", named := ["pub-convoy/pub/dtls/pkg/protocol/extension.errPointFormatsTooLarge", "encoding/binary.BigEndian"], apart := false, laid := [("pub-convoy/pub/dtls/pkg/protocol/extension.errPointFormatsTooLarge", laid_pub_convoy_pub_dtls_pkg_protocol_extension_errPointFormatsTooLarge)] }
def FnPointFormatsWriteSaid : Prop := fnPointFormatsWriteRow.holds Tryd.pinned (OpenSpec.ofChange fnPointFormatsWriteSpec)

/-- ITS FALSE NEIGHBOUR: 'it returns false'. Refute it at one input. -/
def fnPointFormatsWriteWrong : ChangeSpec := { name := "fnPointFormatsWrite", fn := fun _ => fun
  | [d] => { results := [.lit (.bool false)], args := [d] }
  | _ => none }
def FnPointFormatsWriteWrongFalsely : Prop := fnPointFormatsWriteRow.holds Tryd.pinned (OpenSpec.ofChange fnPointFormatsWriteWrong)

/-- 'laws.FnSuitesBack': WHATEVER THE INPUT: true; the input reads as it did. -/
def fnSuitesBackSpec : ChangeSpec := { name := "fnSuitesBack", fn := fun _ => fun
  | [d1, d2] => { results := [.lit (.bool true)], args := [d1, d2] }
  | _ => none }
def fnSuitesBackRow : OpenClaim := { program := "ytdkncgggjhiphaadoor", sum := "3366c62916d754c97921e25cee5ef7b9f96ea2d792fd724ba644c3649b8e202e", func := "pub-convoy/laws.FnSuitesBack", spec := "fnSuitesBack", named := ["encoding/binary.BigEndian", "pub-convoy/pub/dtls/pkg/protocol/handshake.errBufferTooSmall"], apart := false, laid := [("pub-convoy/pub/dtls/pkg/protocol/handshake.errBufferTooSmall", laid_pub_convoy_pub_dtls_pkg_protocol_handshake_errBufferTooSmall)] }
def FnSuitesBackSaid : Prop := fnSuitesBackRow.holds Tryd.pinned (OpenSpec.ofChange fnSuitesBackSpec)

/-- ITS FALSE NEIGHBOUR: 'it returns false'. Refute it at one input. -/
def fnSuitesBackWrong : ChangeSpec := { name := "fnSuitesBack", fn := fun _ => fun
  | [d1, d2] => { results := [.lit (.bool false)], args := [d1, d2] }
  | _ => none }
def FnSuitesBackWrongFalsely : Prop := fnSuitesBackRow.holds Tryd.pinned (OpenSpec.ofChange fnSuitesBackWrong)

/-- 'laws.FnCcmSizes': WHATEVER THE INPUT: true; the input reads as it did. -/
def fnCcmSizesSpec : ChangeSpec := { name := "fnCcmSizes", fn := fun _ => fun
  | [d1, d2] => { results := [.lit (.bool true)], args := [d1, d2] }
  | _ => none }
def fnCcmSizesRow : OpenClaim := { program := "ytdkncgggjhiphaadoor", sum := "3366c62916d754c97921e25cee5ef7b9f96ea2d792fd724ba644c3649b8e202e", func := "pub-convoy/laws.FnCcmSizes", spec := "fnCcmSizes", unfollowed := true, recurses := true, named := ["pub-convoy/pub/dtls/pkg/crypto/ccm.errInvalidBlockSize", "pub-convoy/pub/dtls/pkg/crypto/ccm.errInvalidTagSize", "pub-convoy/pub/dtls/pkg/crypto/ccm.errInvalidNonceSize"], apart := false, laid := [("pub-convoy/pub/dtls/pkg/crypto/ccm.errInvalidBlockSize", laid_pub_convoy_pub_dtls_pkg_crypto_ccm_errInvalidBlockSize), ("pub-convoy/pub/dtls/pkg/crypto/ccm.errInvalidTagSize", laid_pub_convoy_pub_dtls_pkg_crypto_ccm_errInvalidTagSize), ("pub-convoy/pub/dtls/pkg/crypto/ccm.errInvalidNonceSize", laid_pub_convoy_pub_dtls_pkg_crypto_ccm_errInvalidNonceSize)] }
def FnCcmSizesSaid : Prop := fnCcmSizesRow.holds Tryd.pinned (OpenSpec.ofChange fnCcmSizesSpec)

/-- ITS FALSE NEIGHBOUR: 'it returns false'. Refute it at one input. -/
def fnCcmSizesWrong : ChangeSpec := { name := "fnCcmSizes", fn := fun _ => fun
  | [d1, d2] => { results := [.lit (.bool false)], args := [d1, d2] }
  | _ => none }
def FnCcmSizesWrongFalsely : Prop := fnCcmSizesRow.holds Tryd.pinned (OpenSpec.ofChange fnCcmSizesWrong)

/-- 'laws.FnClientKeyPskCut': WHATEVER THE INPUT: true; the input reads as it did. -/
def fnClientKeyPskCutSpec : ChangeSpec := { name := "fnClientKeyPskCut", fn := fun _ => fun
  | [d1, d2] => { results := [.lit (.bool true)], args := [d1, d2] }
  | _ => none }
def fnClientKeyPskCutRow : OpenClaim := { program := "ytdkncgggjhiphaadoor", sum := "3366c62916d754c97921e25cee5ef7b9f96ea2d792fd724ba644c3649b8e202e", func := "pub-convoy/laws.FnClientKeyPskCut", spec := "fnClientKeyPskCut", named := ["pub-convoy/pub/dtls/pkg/protocol/handshake.errBufferTooSmall", "pub-convoy/pub/dtls/pkg/protocol/handshake.errCipherSuiteUnset", "encoding/binary.BigEndian"], apart := false, laid := [("pub-convoy/pub/dtls/pkg/protocol/handshake.errBufferTooSmall", laid_pub_convoy_pub_dtls_pkg_protocol_handshake_errBufferTooSmall), ("pub-convoy/pub/dtls/pkg/protocol/handshake.errCipherSuiteUnset", laid_pub_convoy_pub_dtls_pkg_protocol_handshake_errCipherSuiteUnset)] }
def FnClientKeyPskCutSaid : Prop := fnClientKeyPskCutRow.holds Tryd.pinned (OpenSpec.ofChange fnClientKeyPskCutSpec)

/-- ITS FALSE NEIGHBOUR: 'it returns false'. Refute it at one input. -/
def fnClientKeyPskCutWrong : ChangeSpec := { name := "fnClientKeyPskCut", fn := fun _ => fun
  | [d1, d2] => { results := [.lit (.bool false)], args := [d1, d2] }
  | _ => none }
def FnClientKeyPskCutWrongFalsely : Prop := fnClientKeyPskCutRow.holds Tryd.pinned (OpenSpec.ofChange fnClientKeyPskCutWrong)

/-- 'laws.FnClientKeyBothWrite': WHATEVER THE INPUT: true; the input reads as it did. -/
def fnClientKeyBothWriteSpec : ChangeSpec := { name := "fnClientKeyBothWrite", fn := fun _ => fun
  | [d1, d2] => { results := [.lit (.bool true)], args := [d1, d2] }
  | _ => none }
def fnClientKeyBothWriteRow : OpenClaim := { program := "ytdkncgggjhiphaadoor", sum := "3366c62916d754c97921e25cee5ef7b9f96ea2d792fd724ba644c3649b8e202e", func := "pub-convoy/laws.FnClientKeyBothWrite", spec := "fnClientKeyBothWrite", named := ["pub-convoy/pub/dtls/pkg/protocol/handshake.errInvalidClientKeyExchange", "encoding/binary.BigEndian", "pub-convoy/pub/dtls/pkg/protocol/handshake.errPublicKeyTooLong"], apart := false, laid := [("pub-convoy/pub/dtls/pkg/protocol/handshake.errInvalidClientKeyExchange", laid_pub_convoy_pub_dtls_pkg_protocol_handshake_errInvalidClientKeyExchange), ("pub-convoy/pub/dtls/pkg/protocol/handshake.errPublicKeyTooLong", laid_pub_convoy_pub_dtls_pkg_protocol_handshake_errPublicKeyTooLong)] }
def FnClientKeyBothWriteSaid : Prop := fnClientKeyBothWriteRow.holds Tryd.pinned (OpenSpec.ofChange fnClientKeyBothWriteSpec)

/-- ITS FALSE NEIGHBOUR: 'it returns false'. Refute it at one input. -/
def fnClientKeyBothWriteWrong : ChangeSpec := { name := "fnClientKeyBothWrite", fn := fun _ => fun
  | [d1, d2] => { results := [.lit (.bool false)], args := [d1, d2] }
  | _ => none }
def FnClientKeyBothWriteWrongFalsely : Prop := fnClientKeyBothWriteRow.holds Tryd.pinned (OpenSpec.ofChange fnClientKeyBothWriteWrong)

/- THE SECOND FORM. 'bulk': how many values and letters a reading holds, each counted each time it is reached (what is shared counts as often as it is met; a slice's spare places count too). A statement '..UptoSaid' is the law's where the arguments, and the package variables that the reading takes, are together of bulk at most 1048576: NARROWER than '..Said'. Prove '..Said' where nothing that the law and all that it calls make is longer than what came in: it says more and counts as full. Else prove '..UptoSaid'. A law counts once. -/
mutual
def uptoBulk {H : Type} : DataW H → Nat
  | .lit (.string bytes) => bytes.length + 1
  | .lit _ => 1
  | .nil => 1
  | .ptr d => uptoBulk d + 1
  | .slice elems spare => uptoBulkAll elems + uptoBulkAll spare + 1
  | .agg parts => uptoBulkAll parts + 1
  | .iface _ d => uptoBulk d + 1
  | .map entries => uptoBulkEntries entries + 1
  | .held _ => 1
def uptoBulkAll {H : Type} : List (DataW H) → Nat
  | [] => 0
  | d :: r => uptoBulk d + uptoBulkAll r
def uptoBulkEntries {H : Type} : List (Lit × DataW H) → Nat
  | [] => 0
  | x :: r => uptoBulkEntry x + uptoBulkEntries r
def uptoBulkEntry {H : Type} : Lit × DataW H → Nat
  | (.string bytes, d) => bytes.length + uptoBulk d + 1
  | (_, d) => uptoBulk d + 1
 end
def uptoSmall : (H : Type) → List (DataW H) → Bool := fun _ ds => decide (uptoBulkAll ds ≤ 1048576)
def OpenSpec.upto (s : _root_.Go.ChangeSpec) : _root_.Go.OpenSpec := { _root_.Go.OpenSpec.ofChange s with cond := some uptoSmall }

/-- 'laws.FnCipherSpec', WHERE WHAT IT READS IS OF BULK AT MOST 1048576: true; the input reads as it did. -/
def fnCipherSpecUptoRow : OpenClaim := { program := "ytdkncgggjhiphaadoor", sum := "3366c62916d754c97921e25cee5ef7b9f96ea2d792fd724ba644c3649b8e202e", func := "pub-convoy/laws.FnCipherSpec", spec := "fnCipherSpec", named := ["pub-convoy/pub/dtls/pkg/protocol.errInvalidCipherSpec"], apart := false, laid := [("pub-convoy/pub/dtls/pkg/protocol.errInvalidCipherSpec", laid_pub_convoy_pub_dtls_pkg_protocol_errInvalidCipherSpec)], narrowed := true }
def FnCipherSpecUptoSaid : Prop := fnCipherSpecUptoRow.holds Tryd.pinned (OpenSpec.upto fnCipherSpecSpec)

/-- 'laws.FnVerifyRequestCut', WHERE WHAT IT READS IS OF BULK AT MOST 1048576: true; the input reads as it did. -/
def fnVerifyRequestCutUptoRow : OpenClaim := { program := "ytdkncgggjhiphaadoor", sum := "3366c62916d754c97921e25cee5ef7b9f96ea2d792fd724ba644c3649b8e202e", func := "pub-convoy/laws.FnVerifyRequestCut", spec := "fnVerifyRequestCut", named := ["pub-convoy/pub/dtls/pkg/protocol/handshake.errBufferTooSmall"], apart := false, laid := [("pub-convoy/pub/dtls/pkg/protocol/handshake.errBufferTooSmall", laid_pub_convoy_pub_dtls_pkg_protocol_handshake_errBufferTooSmall)], narrowed := true }
def FnVerifyRequestCutUptoSaid : Prop := fnVerifyRequestCutUptoRow.holds Tryd.pinned (OpenSpec.upto fnVerifyRequestCutSpec)

/-- 'laws.FnChooseProtocol', WHERE WHAT IT READS IS OF BULK AT MOST 1048576: true; the input reads as it did. -/
def fnChooseProtocolUptoRow : OpenClaim := { program := "ytdkncgggjhiphaadoor", sum := "3366c62916d754c97921e25cee5ef7b9f96ea2d792fd724ba644c3649b8e202e", func := "pub-convoy/laws.FnChooseProtocol", spec := "fnChooseProtocol", named := ["pub-convoy/pub/dtls/pkg/protocol/extension.errALPNNoAppProto"], apart := false, laid := [("pub-convoy/pub/dtls/pkg/protocol/extension.errALPNNoAppProto", laid_pub_convoy_pub_dtls_pkg_protocol_extension_errALPNNoAppProto)], narrowed := true }
def FnChooseProtocolUptoSaid : Prop := fnChooseProtocolUptoRow.holds Tryd.pinned (OpenSpec.upto fnChooseProtocolSpec)

/-- 'laws.FnRenegotiationBack', WHERE WHAT IT READS IS OF BULK AT MOST 1048576: true; the input reads as it did. -/
def fnRenegotiationBackUptoRow : OpenClaim := { program := "ytdkncgggjhiphaadoor", sum := "3366c62916d754c97921e25cee5ef7b9f96ea2d792fd724ba644c3649b8e202e", func := "pub-convoy/laws.FnRenegotiationBack", spec := "fnRenegotiationBack", unfollowed := true, recurses := true, named := ["pub-convoy/pub/dtls/pkg/protocol/extension.errBufferTooSmall", "encoding/binary.BigEndian", "pub-convoy/pub/dtls/pkg/protocol/extension.errInvalidExtensionType", "pub-convoy/pub/dtls/pkg/protocol/extension.errLengthMismatch"], apart := false, laid := [("pub-convoy/pub/dtls/pkg/protocol/extension.errBufferTooSmall", laid_pub_convoy_pub_dtls_pkg_protocol_extension_errBufferTooSmall), ("pub-convoy/pub/dtls/pkg/protocol/extension.errInvalidExtensionType", laid_pub_convoy_pub_dtls_pkg_protocol_extension_errInvalidExtensionType), ("pub-convoy/pub/dtls/pkg/protocol/extension.errLengthMismatch", laid_pub_convoy_pub_dtls_pkg_protocol_extension_errLengthMismatch)], narrowed := true }
def FnRenegotiationBackUptoSaid : Prop := fnRenegotiationBackUptoRow.holds Tryd.pinned (OpenSpec.upto fnRenegotiationBackSpec)

/-- 'laws.FnDatagramWhole', WHERE WHAT IT READS IS OF BULK AT MOST 1048576: true; the input reads as it did. -/
def fnDatagramWholeUptoRow : OpenClaim := { program := "ytdkncgggjhiphaadoor", sum := "3366c62916d754c97921e25cee5ef7b9f96ea2d792fd724ba644c3649b8e202e", func := "pub-convoy/laws.FnDatagramWhole", spec := "fnDatagramWhole", named := ["pub-convoy/pub/dtls/pkg/protocol/recordlayer.ErrInvalidPacketLength", "encoding/binary.BigEndian"], apart := false, laid := [("pub-convoy/pub/dtls/pkg/protocol/recordlayer.ErrInvalidPacketLength", laid_pub_convoy_pub_dtls_pkg_protocol_recordlayer_ErrInvalidPacketLength)], narrowed := true }
def FnDatagramWholeUptoSaid : Prop := fnDatagramWholeUptoRow.holds Tryd.pinned (OpenSpec.upto fnDatagramWholeSpec)

/-- 'laws.FnPointFormatsWrite', WHERE WHAT IT READS IS OF BULK AT MOST 1048576: true; the input reads as it did. -/
def fnPointFormatsWriteUptoRow : OpenClaim := { program := "ytdkncgggjhiphaadoor", sum := "3366c62916d754c97921e25cee5ef7b9f96ea2d792fd724ba644c3649b8e202e", func := "pub-convoy/laws.FnPointFormatsWrite", spec := "fnPointFormatsWrite", named := ["pub-convoy/pub/dtls/pkg/protocol/extension.errPointFormatsTooLarge", "encoding/binary.BigEndian"], apart := false, laid := [("pub-convoy/pub/dtls/pkg/protocol/extension.errPointFormatsTooLarge", laid_pub_convoy_pub_dtls_pkg_protocol_extension_errPointFormatsTooLarge)], narrowed := true }
def FnPointFormatsWriteUptoSaid : Prop := fnPointFormatsWriteUptoRow.holds Tryd.pinned (OpenSpec.upto fnPointFormatsWriteSpec)

/-- 'laws.FnSuitesBack', WHERE WHAT IT READS IS OF BULK AT MOST 1048576: true; the input reads as it did. -/
def fnSuitesBackUptoRow : OpenClaim := { program := "ytdkncgggjhiphaadoor", sum := "3366c62916d754c97921e25cee5ef7b9f96ea2d792fd724ba644c3649b8e202e", func := "pub-convoy/laws.FnSuitesBack", spec := "fnSuitesBack", named := ["encoding/binary.BigEndian", "pub-convoy/pub/dtls/pkg/protocol/handshake.errBufferTooSmall"], apart := false, laid := [("pub-convoy/pub/dtls/pkg/protocol/handshake.errBufferTooSmall", laid_pub_convoy_pub_dtls_pkg_protocol_handshake_errBufferTooSmall)], narrowed := true }
def FnSuitesBackUptoSaid : Prop := fnSuitesBackUptoRow.holds Tryd.pinned (OpenSpec.upto fnSuitesBackSpec)

/-- 'laws.FnCcmSizes', WHERE WHAT IT READS IS OF BULK AT MOST 1048576: true; the input reads as it did. -/
def fnCcmSizesUptoRow : OpenClaim := { program := "ytdkncgggjhiphaadoor", sum := "3366c62916d754c97921e25cee5ef7b9f96ea2d792fd724ba644c3649b8e202e", func := "pub-convoy/laws.FnCcmSizes", spec := "fnCcmSizes", unfollowed := true, recurses := true, named := ["pub-convoy/pub/dtls/pkg/crypto/ccm.errInvalidBlockSize", "pub-convoy/pub/dtls/pkg/crypto/ccm.errInvalidTagSize", "pub-convoy/pub/dtls/pkg/crypto/ccm.errInvalidNonceSize"], apart := false, laid := [("pub-convoy/pub/dtls/pkg/crypto/ccm.errInvalidBlockSize", laid_pub_convoy_pub_dtls_pkg_crypto_ccm_errInvalidBlockSize), ("pub-convoy/pub/dtls/pkg/crypto/ccm.errInvalidTagSize", laid_pub_convoy_pub_dtls_pkg_crypto_ccm_errInvalidTagSize), ("pub-convoy/pub/dtls/pkg/crypto/ccm.errInvalidNonceSize", laid_pub_convoy_pub_dtls_pkg_crypto_ccm_errInvalidNonceSize)], narrowed := true }
def FnCcmSizesUptoSaid : Prop := fnCcmSizesUptoRow.holds Tryd.pinned (OpenSpec.upto fnCcmSizesSpec)

/-- 'laws.FnClientKeyPskCut', WHERE WHAT IT READS IS OF BULK AT MOST 1048576: true; the input reads as it did. -/
def fnClientKeyPskCutUptoRow : OpenClaim := { program := "ytdkncgggjhiphaadoor", sum := "3366c62916d754c97921e25cee5ef7b9f96ea2d792fd724ba644c3649b8e202e", func := "pub-convoy/laws.FnClientKeyPskCut", spec := "fnClientKeyPskCut", named := ["pub-convoy/pub/dtls/pkg/protocol/handshake.errBufferTooSmall", "pub-convoy/pub/dtls/pkg/protocol/handshake.errCipherSuiteUnset", "encoding/binary.BigEndian"], apart := false, laid := [("pub-convoy/pub/dtls/pkg/protocol/handshake.errBufferTooSmall", laid_pub_convoy_pub_dtls_pkg_protocol_handshake_errBufferTooSmall), ("pub-convoy/pub/dtls/pkg/protocol/handshake.errCipherSuiteUnset", laid_pub_convoy_pub_dtls_pkg_protocol_handshake_errCipherSuiteUnset)], narrowed := true }
def FnClientKeyPskCutUptoSaid : Prop := fnClientKeyPskCutUptoRow.holds Tryd.pinned (OpenSpec.upto fnClientKeyPskCutSpec)

/-- 'laws.FnClientKeyBothWrite', WHERE WHAT IT READS IS OF BULK AT MOST 1048576: true; the input reads as it did. -/
def fnClientKeyBothWriteUptoRow : OpenClaim := { program := "ytdkncgggjhiphaadoor", sum := "3366c62916d754c97921e25cee5ef7b9f96ea2d792fd724ba644c3649b8e202e", func := "pub-convoy/laws.FnClientKeyBothWrite", spec := "fnClientKeyBothWrite", named := ["pub-convoy/pub/dtls/pkg/protocol/handshake.errInvalidClientKeyExchange", "encoding/binary.BigEndian", "pub-convoy/pub/dtls/pkg/protocol/handshake.errPublicKeyTooLong"], apart := false, laid := [("pub-convoy/pub/dtls/pkg/protocol/handshake.errInvalidClientKeyExchange", laid_pub_convoy_pub_dtls_pkg_protocol_handshake_errInvalidClientKeyExchange), ("pub-convoy/pub/dtls/pkg/protocol/handshake.errPublicKeyTooLong", laid_pub_convoy_pub_dtls_pkg_protocol_handshake_errPublicKeyTooLong)], narrowed := true }
def FnClientKeyBothWriteUptoSaid : Prop := fnClientKeyBothWriteUptoRow.holds Tryd.pinned (OpenSpec.upto fnClientKeyBothWriteSpec)

end Rows
end Go.Proofs.YtdkncgggjhiphaaDoor
