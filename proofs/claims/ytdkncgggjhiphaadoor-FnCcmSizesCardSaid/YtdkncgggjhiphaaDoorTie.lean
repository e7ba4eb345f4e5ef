/-
  DERIVED. GIVEN WITH THE SEED: THE PROGRAM's TIES (one call each: nine closed facts by the kernel) AND EACH ROW's TIE, after the 31st guide's Derived/Test/Toyas{Tie, Card}.lean. No idea stands in it: it is a product of the set-up. Laid BY PROGRAM, IN A SANDBOX (cutbox-door.mjs). By AI agents, Wed Nov 11 2026. No macro, syntax, notation, axiom, sorry.
-/
import Derived.Test.YtdkncgggjhiphaaDoorRows
import Derived.LaidByTextLater
import Derived.SevenTiedAt
import Derived.LaidSub
import Derived.LaidOnce
namespace Go.Proofs.YtdkncgggjhiphaaDoor
open Go
set_option maxRecDepth 100000
theorem seatTie1 : Tryd.prog.laidByTextLater [("pub-convoy/pub/dtls/pkg/protocol.errInvalidCipherSpec", Rows.laid_pub_convoy_pub_dtls_pkg_protocol_errInvalidCipherSpec), ("pub-convoy/pub/dtls/pkg/crypto/ccm.errInvalidBlockSize", Rows.laid_pub_convoy_pub_dtls_pkg_crypto_ccm_errInvalidBlockSize), ("pub-convoy/pub/dtls/pkg/crypto/ccm.errInvalidTagSize", Rows.laid_pub_convoy_pub_dtls_pkg_crypto_ccm_errInvalidTagSize), ("pub-convoy/pub/dtls/pkg/crypto/ccm.errInvalidNonceSize", Rows.laid_pub_convoy_pub_dtls_pkg_crypto_ccm_errInvalidNonceSize), ("pub-convoy/pub/dtls/pkg/protocol/extension.errALPNNoAppProto", Rows.laid_pub_convoy_pub_dtls_pkg_protocol_extension_errALPNNoAppProto), ("pub-convoy/pub/dtls/pkg/protocol/extension.errBufferTooSmall", Rows.laid_pub_convoy_pub_dtls_pkg_protocol_extension_errBufferTooSmall), ("pub-convoy/pub/dtls/pkg/protocol/extension.errInvalidExtensionType", Rows.laid_pub_convoy_pub_dtls_pkg_protocol_extension_errInvalidExtensionType), ("pub-convoy/pub/dtls/pkg/protocol/extension.errLengthMismatch", Rows.laid_pub_convoy_pub_dtls_pkg_protocol_extension_errLengthMismatch), ("pub-convoy/pub/dtls/pkg/protocol/extension.errPointFormatsTooLarge", Rows.laid_pub_convoy_pub_dtls_pkg_protocol_extension_errPointFormatsTooLarge), ("pub-convoy/pub/dtls/pkg/protocol/handshake.errBufferTooSmall", Rows.laid_pub_convoy_pub_dtls_pkg_protocol_handshake_errBufferTooSmall), ("pub-convoy/pub/dtls/pkg/protocol/handshake.errInvalidClientKeyExchange", Rows.laid_pub_convoy_pub_dtls_pkg_protocol_handshake_errInvalidClientKeyExchange), ("pub-convoy/pub/dtls/pkg/protocol/handshake.errPublicKeyTooLong", Rows.laid_pub_convoy_pub_dtls_pkg_protocol_handshake_errPublicKeyTooLong), ("pub-convoy/pub/dtls/pkg/protocol/handshake.errCipherSuiteUnset", Rows.laid_pub_convoy_pub_dtls_pkg_protocol_handshake_errCipherSuiteUnset), ("pub-convoy/pub/dtls/pkg/protocol/recordlayer.ErrInvalidPacketLength", Rows.laid_pub_convoy_pub_dtls_pkg_protocol_recordlayer_ErrInvalidPacketLength)] [.sentinel, .sentinel, .sentinel, .sentinel, .sentinel, .sentinel, .sentinel, .sentinel, .sentinel, .sentinel, .sentinel, .sentinel, .sentinel, .sentinel] true :=
  Program.laidByTextLater_by_one 275 8 2 (by kernel_rfl) (by kernel_rfl) (by kernel_rfl) (by kernel_rfl) (by kernel_rfl) (by kernel_rfl) (fun _ _ => by kernel_rfl)
theorem noOwnUnsafe : Tryd.pinned.checked.prog.headLifts.contains "ownunsafe" = false := by kernel_rfl
theorem tie : Tryd.prog.laidByTextLater [("pub-convoy/pub/dtls/pkg/protocol.errInvalidCipherSpec", Rows.laid_pub_convoy_pub_dtls_pkg_protocol_errInvalidCipherSpec)] [.sentinel] true :=
  Program.laidByTextLater.sub seatTie1 ["pub-convoy/pub/dtls/pkg/protocol.errInvalidCipherSpec"] (by kernel_rfl) (by kernel_rfl)
theorem fnCipherSpec_row_tie : Rows.fnCipherSpecRow.laidByTextAt .later Tryd.pinned [.sentinel] true :=
  OpenClaim.laidByTextAt_later rfl rfl tie noOwnUnsafe
theorem tie2 : Tryd.prog.laidByTextLater [("pub-convoy/pub/dtls/pkg/protocol/handshake.errBufferTooSmall", Rows.laid_pub_convoy_pub_dtls_pkg_protocol_handshake_errBufferTooSmall)] [.sentinel] true :=
  Program.laidByTextLater.sub seatTie1 ["pub-convoy/pub/dtls/pkg/protocol/handshake.errBufferTooSmall"] (by kernel_rfl) (by kernel_rfl)
theorem fnVerifyRequestCut_row_tie : Rows.fnVerifyRequestCutRow.laidByTextAt .later Tryd.pinned [.sentinel] true :=
  OpenClaim.laidByTextAt_later rfl rfl tie2 noOwnUnsafe
theorem fnSuitesBack_row_tie : Rows.fnSuitesBackRow.laidByTextAt .later Tryd.pinned [.sentinel] true :=
  OpenClaim.laidByTextAt_later rfl rfl tie2 noOwnUnsafe
theorem tie3 : Tryd.prog.laidByTextLater [("pub-convoy/pub/dtls/pkg/protocol/extension.errALPNNoAppProto", Rows.laid_pub_convoy_pub_dtls_pkg_protocol_extension_errALPNNoAppProto)] [.sentinel] true :=
  Program.laidByTextLater.sub seatTie1 ["pub-convoy/pub/dtls/pkg/protocol/extension.errALPNNoAppProto"] (by kernel_rfl) (by kernel_rfl)
theorem fnChooseProtocol_row_tie : Rows.fnChooseProtocolRow.laidByTextAt .later Tryd.pinned [.sentinel] true :=
  OpenClaim.laidByTextAt_later rfl rfl tie3 noOwnUnsafe
theorem tie4 : Tryd.prog.laidByTextLater [("pub-convoy/pub/dtls/pkg/protocol/extension.errBufferTooSmall", Rows.laid_pub_convoy_pub_dtls_pkg_protocol_extension_errBufferTooSmall), ("pub-convoy/pub/dtls/pkg/protocol/extension.errInvalidExtensionType", Rows.laid_pub_convoy_pub_dtls_pkg_protocol_extension_errInvalidExtensionType), ("pub-convoy/pub/dtls/pkg/protocol/extension.errLengthMismatch", Rows.laid_pub_convoy_pub_dtls_pkg_protocol_extension_errLengthMismatch)] [.sentinel, .sentinel, .sentinel] true :=
  Program.laidByTextLater.sub seatTie1 ["pub-convoy/pub/dtls/pkg/protocol/extension.errBufferTooSmall", "pub-convoy/pub/dtls/pkg/protocol/extension.errInvalidExtensionType", "pub-convoy/pub/dtls/pkg/protocol/extension.errLengthMismatch"] (by kernel_rfl) (by kernel_rfl)
theorem fnRenegotiationBack_row_tie : Rows.fnRenegotiationBackRow.laidByTextAt .later Tryd.pinned [.sentinel, .sentinel, .sentinel] true :=
  OpenClaim.laidByTextAt_later rfl rfl tie4 noOwnUnsafe
theorem tie5 : Tryd.prog.laidByTextLater [("pub-convoy/pub/dtls/pkg/protocol/recordlayer.ErrInvalidPacketLength", Rows.laid_pub_convoy_pub_dtls_pkg_protocol_recordlayer_ErrInvalidPacketLength)] [.sentinel] true :=
  Program.laidByTextLater.sub seatTie1 ["pub-convoy/pub/dtls/pkg/protocol/recordlayer.ErrInvalidPacketLength"] (by kernel_rfl) (by kernel_rfl)
theorem fnDatagramWhole_row_tie : Rows.fnDatagramWholeRow.laidByTextAt .later Tryd.pinned [.sentinel] true :=
  OpenClaim.laidByTextAt_later rfl rfl tie5 noOwnUnsafe
theorem tie6 : Tryd.prog.laidByTextLater [("pub-convoy/pub/dtls/pkg/protocol/extension.errPointFormatsTooLarge", Rows.laid_pub_convoy_pub_dtls_pkg_protocol_extension_errPointFormatsTooLarge)] [.sentinel] true :=
  Program.laidByTextLater.sub seatTie1 ["pub-convoy/pub/dtls/pkg/protocol/extension.errPointFormatsTooLarge"] (by kernel_rfl) (by kernel_rfl)
theorem fnPointFormatsWrite_row_tie : Rows.fnPointFormatsWriteRow.laidByTextAt .later Tryd.pinned [.sentinel] true :=
  OpenClaim.laidByTextAt_later rfl rfl tie6 noOwnUnsafe
theorem tie7 : Tryd.prog.laidByTextLater [("pub-convoy/pub/dtls/pkg/crypto/ccm.errInvalidBlockSize", Rows.laid_pub_convoy_pub_dtls_pkg_crypto_ccm_errInvalidBlockSize), ("pub-convoy/pub/dtls/pkg/crypto/ccm.errInvalidTagSize", Rows.laid_pub_convoy_pub_dtls_pkg_crypto_ccm_errInvalidTagSize), ("pub-convoy/pub/dtls/pkg/crypto/ccm.errInvalidNonceSize", Rows.laid_pub_convoy_pub_dtls_pkg_crypto_ccm_errInvalidNonceSize)] [.sentinel, .sentinel, .sentinel] true :=
  Program.laidByTextLater.sub seatTie1 ["pub-convoy/pub/dtls/pkg/crypto/ccm.errInvalidBlockSize", "pub-convoy/pub/dtls/pkg/crypto/ccm.errInvalidTagSize", "pub-convoy/pub/dtls/pkg/crypto/ccm.errInvalidNonceSize"] (by kernel_rfl) (by kernel_rfl)
theorem fnCcmSizes_row_tie : Rows.fnCcmSizesRow.laidByTextAt .later Tryd.pinned [.sentinel, .sentinel, .sentinel] true :=
  OpenClaim.laidByTextAt_later rfl rfl tie7 noOwnUnsafe
theorem tie8 : Tryd.prog.laidByTextLater [("pub-convoy/pub/dtls/pkg/protocol/handshake.errBufferTooSmall", Rows.laid_pub_convoy_pub_dtls_pkg_protocol_handshake_errBufferTooSmall), ("pub-convoy/pub/dtls/pkg/protocol/handshake.errCipherSuiteUnset", Rows.laid_pub_convoy_pub_dtls_pkg_protocol_handshake_errCipherSuiteUnset)] [.sentinel, .sentinel] true :=
  Program.laidByTextLater.sub seatTie1 ["pub-convoy/pub/dtls/pkg/protocol/handshake.errBufferTooSmall", "pub-convoy/pub/dtls/pkg/protocol/handshake.errCipherSuiteUnset"] (by kernel_rfl) (by kernel_rfl)
theorem fnClientKeyPskCut_row_tie : Rows.fnClientKeyPskCutRow.laidByTextAt .later Tryd.pinned [.sentinel, .sentinel] true :=
  OpenClaim.laidByTextAt_later rfl rfl tie8 noOwnUnsafe
theorem tie9 : Tryd.prog.laidByTextLater [("pub-convoy/pub/dtls/pkg/protocol/handshake.errInvalidClientKeyExchange", Rows.laid_pub_convoy_pub_dtls_pkg_protocol_handshake_errInvalidClientKeyExchange), ("pub-convoy/pub/dtls/pkg/protocol/handshake.errPublicKeyTooLong", Rows.laid_pub_convoy_pub_dtls_pkg_protocol_handshake_errPublicKeyTooLong)] [.sentinel, .sentinel] true :=
  Program.laidByTextLater.sub seatTie1 ["pub-convoy/pub/dtls/pkg/protocol/handshake.errInvalidClientKeyExchange", "pub-convoy/pub/dtls/pkg/protocol/handshake.errPublicKeyTooLong"] (by kernel_rfl) (by kernel_rfl)
theorem fnClientKeyBothWrite_row_tie : Rows.fnClientKeyBothWriteRow.laidByTextAt .later Tryd.pinned [.sentinel, .sentinel] true :=
  OpenClaim.laidByTextAt_later rfl rfl tie9 noOwnUnsafe
theorem fnCipherSpecUpto_row_tie : Rows.fnCipherSpecUptoRow.laidByTextAt .later Tryd.pinned [.sentinel] true :=
  OpenClaim.laidByTextAt_later rfl rfl tie noOwnUnsafe
theorem fnVerifyRequestCutUpto_row_tie : Rows.fnVerifyRequestCutUptoRow.laidByTextAt .later Tryd.pinned [.sentinel] true :=
  OpenClaim.laidByTextAt_later rfl rfl tie2 noOwnUnsafe
theorem fnChooseProtocolUpto_row_tie : Rows.fnChooseProtocolUptoRow.laidByTextAt .later Tryd.pinned [.sentinel] true :=
  OpenClaim.laidByTextAt_later rfl rfl tie3 noOwnUnsafe
theorem fnRenegotiationBackUpto_row_tie : Rows.fnRenegotiationBackUptoRow.laidByTextAt .later Tryd.pinned [.sentinel, .sentinel, .sentinel] true :=
  OpenClaim.laidByTextAt_later rfl rfl tie4 noOwnUnsafe
theorem fnDatagramWholeUpto_row_tie : Rows.fnDatagramWholeUptoRow.laidByTextAt .later Tryd.pinned [.sentinel] true :=
  OpenClaim.laidByTextAt_later rfl rfl tie5 noOwnUnsafe
theorem fnPointFormatsWriteUpto_row_tie : Rows.fnPointFormatsWriteUptoRow.laidByTextAt .later Tryd.pinned [.sentinel] true :=
  OpenClaim.laidByTextAt_later rfl rfl tie6 noOwnUnsafe
theorem fnSuitesBackUpto_row_tie : Rows.fnSuitesBackUptoRow.laidByTextAt .later Tryd.pinned [.sentinel] true :=
  OpenClaim.laidByTextAt_later rfl rfl tie2 noOwnUnsafe
theorem fnCcmSizesUpto_row_tie : Rows.fnCcmSizesUptoRow.laidByTextAt .later Tryd.pinned [.sentinel, .sentinel, .sentinel] true :=
  OpenClaim.laidByTextAt_later rfl rfl tie7 noOwnUnsafe
theorem fnClientKeyPskCutUpto_row_tie : Rows.fnClientKeyPskCutUptoRow.laidByTextAt .later Tryd.pinned [.sentinel, .sentinel] true :=
  OpenClaim.laidByTextAt_later rfl rfl tie8 noOwnUnsafe
theorem fnClientKeyBothWriteUpto_row_tie : Rows.fnClientKeyBothWriteUptoRow.laidByTextAt .later Tryd.pinned [.sentinel, .sentinel] true :=
  OpenClaim.laidByTextAt_later rfl rfl tie9 noOwnUnsafe
end Go.Proofs.YtdkncgggjhiphaaDoor
