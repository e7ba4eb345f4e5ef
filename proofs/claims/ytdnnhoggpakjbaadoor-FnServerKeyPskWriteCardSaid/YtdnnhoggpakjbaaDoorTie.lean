/-
  DERIVED. GIVEN WITH THE SEED: THE PROGRAM's TIES (one call each: nine closed facts by the kernel) AND EACH ROW's TIE, after the 31st guide's Derived/Test/Toyas{Tie, Card}.lean. No idea stands in it: it is a product of the set-up. Laid BY PROGRAM, IN A SANDBOX (cutbox-door.mjs). By AI agents, Wed Nov 11 2026. No macro, syntax, notation, axiom, sorry.
-/
import Derived.Test.YtdnnhoggpakjbaaDoorRows
import Derived.LaidByTextLater
import Derived.SevenTiedAt
import Derived.LaidSub
import Derived.LaidOnce
namespace Go.Proofs.YtdnnhoggpakjbaaDoor
open Go
set_option maxRecDepth 100000
theorem seatTie1 : Tryd.prog.laidByTextLater [("pub-convoy/pub/dtls/pkg/protocol/handshake.errBufferTooSmall", Rows.laid_pub_convoy_pub_dtls_pkg_protocol_handshake_errBufferTooSmall), ("pub-convoy/pub/dtls/pkg/protocol/handshake.errInvalidClientKeyExchange", Rows.laid_pub_convoy_pub_dtls_pkg_protocol_handshake_errInvalidClientKeyExchange), ("pub-convoy/pub/dtls/pkg/protocol/handshake.errInvalidSignHashAlgorithm", Rows.laid_pub_convoy_pub_dtls_pkg_protocol_handshake_errInvalidSignHashAlgorithm), ("pub-convoy/pub/dtls/pkg/protocol/handshake.errPublicKeyTooLong", Rows.laid_pub_convoy_pub_dtls_pkg_protocol_handshake_errPublicKeyTooLong)] [.sentinel, .sentinel, .sentinel, .sentinel] true :=
  Program.laidByTextLater_by_one 85 8 2 (by kernel_rfl) (by kernel_rfl) (by kernel_rfl) (by kernel_rfl) (by kernel_rfl) (by kernel_rfl) (fun _ _ => by kernel_rfl)
theorem noOwnUnsafe : Tryd.pinned.checked.prog.headLifts.contains "ownunsafe" = false := by kernel_rfl
theorem tie : Tryd.prog.laidByTextLater [("pub-convoy/pub/dtls/pkg/protocol/handshake.errInvalidClientKeyExchange", Rows.laid_pub_convoy_pub_dtls_pkg_protocol_handshake_errInvalidClientKeyExchange), ("pub-convoy/pub/dtls/pkg/protocol/handshake.errPublicKeyTooLong", Rows.laid_pub_convoy_pub_dtls_pkg_protocol_handshake_errPublicKeyTooLong)] [.sentinel, .sentinel] true :=
  Program.laidByTextLater.sub seatTie1 ["pub-convoy/pub/dtls/pkg/protocol/handshake.errInvalidClientKeyExchange", "pub-convoy/pub/dtls/pkg/protocol/handshake.errPublicKeyTooLong"] (by kernel_rfl) (by kernel_rfl)
theorem fnClientKeyBothWrite_row_tie : Rows.fnClientKeyBothWriteRow.laidByTextAt .later Tryd.pinned [.sentinel, .sentinel] true :=
  OpenClaim.laidByTextAt_later rfl rfl tie noOwnUnsafe
theorem tie2 : Tryd.prog.laidByTextLater [("pub-convoy/pub/dtls/pkg/protocol/handshake.errInvalidSignHashAlgorithm", Rows.laid_pub_convoy_pub_dtls_pkg_protocol_handshake_errInvalidSignHashAlgorithm)] [.sentinel] true :=
  Program.laidByTextLater.sub seatTie1 ["pub-convoy/pub/dtls/pkg/protocol/handshake.errInvalidSignHashAlgorithm"] (by kernel_rfl) (by kernel_rfl)
theorem fnServerKeyPskWrite_row_tie : Rows.fnServerKeyPskWriteRow.laidByTextAt .later Tryd.pinned [.sentinel] true :=
  OpenClaim.laidByTextAt_later rfl rfl tie2 noOwnUnsafe
theorem tie3 : Tryd.prog.laidByTextLater [("pub-convoy/pub/dtls/pkg/protocol/handshake.errBufferTooSmall", Rows.laid_pub_convoy_pub_dtls_pkg_protocol_handshake_errBufferTooSmall)] [.sentinel] true :=
  Program.laidByTextLater.sub seatTie1 ["pub-convoy/pub/dtls/pkg/protocol/handshake.errBufferTooSmall"] (by kernel_rfl) (by kernel_rfl)
theorem fnSuitesBack_row_tie : Rows.fnSuitesBackRow.laidByTextAt .later Tryd.pinned [.sentinel] true :=
  OpenClaim.laidByTextAt_later rfl rfl tie3 noOwnUnsafe
theorem fnClientKeyBothWriteUpto_row_tie : Rows.fnClientKeyBothWriteUptoRow.laidByTextAt .later Tryd.pinned [.sentinel, .sentinel] true :=
  OpenClaim.laidByTextAt_later rfl rfl tie noOwnUnsafe
theorem fnServerKeyPskWriteUpto_row_tie : Rows.fnServerKeyPskWriteUptoRow.laidByTextAt .later Tryd.pinned [.sentinel] true :=
  OpenClaim.laidByTextAt_later rfl rfl tie2 noOwnUnsafe
theorem fnSuitesBackUpto_row_tie : Rows.fnSuitesBackUptoRow.laidByTextAt .later Tryd.pinned [.sentinel] true :=
  OpenClaim.laidByTextAt_later rfl rfl tie3 noOwnUnsafe
end Go.Proofs.YtdnnhoggpakjbaaDoor
