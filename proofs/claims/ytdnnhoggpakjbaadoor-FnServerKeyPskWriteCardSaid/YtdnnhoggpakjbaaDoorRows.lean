/-
  NARROWER THAN 'FOR EVERY INPUT', by the rows' own cells (each row's printed sentence says how): FnClientKeyBothWrite: laid · FnServerKeyPskWrite: laid · FnSuitesBack: laid.
  DERIVED. THE GIVEN ROWS OF THIS SEAT. 3 by the template 'for every input the law returns true; each argument reads behind the call as it read before'; 0 by the template 'total and deterministic' (their statements: YtdnnhoggpakjbaaDoorTotals.lean).
  GIVEN WITH THE SEED: the statements are not yours to turn. If you find one false, say at which input.
  Laid BY PROGRAM, IN A SANDBOX (cutbox-rows.mjs): the forced cells as the released guide's own fill.sh prints them over the translation 7289bd48e3c4cc5d… (all of the seat's roots in one cut). By AI agents, Wed Nov 11 2026. No macro, syntax, notation, axiom, sorry.
-/
import Derived.Test.YtdnnhoggpakjbaaDoorChecked
import GoSem.Claim
import GoSem.ClaimJoined
import GoSem.ClaimMapViews
import Derived.JoinedTies
import Derived.KernelRfl
namespace Go.Proofs.YtdnnhoggpakjbaaDoor
/- THE CELL 'sum', in the pinned program and in every row, IS THE sha256 OF THE DUMP (.gsa) THAT YtdnnhoggpakjbaaDoorProg.lean LOADS. Nothing in Lean hashes anything: it is a label: what it is worth is what the hold of that sum in a sandbox is worth. -/
noncomputable def Tryd.pinned : Pinned := { name := "ytdnnhoggpakjbaadoor", sum := "7289bd48e3c4cc5d59caa5a81d0fda499968503e8992e037f4442e29f4183c57", checked := Tryd.checked }
namespace Rows
def none {H : Type} : Left H := { results := [], args := [] }

/- WHAT THE LISTED PACKAGE-LEVEL VARIABLES READ AS WHEN THE CALL BEGINS. Each datum BY PROGRAM (the guide's laid-datum.mjs) off the statement by which the dump's own 'gosem.cut.vars' lays the variable. In a bare row this is a premise. The card (YtdnnhoggpakjbaaDoorCards.lean) ties it to the program's text. -/
def laid_pub_convoy_pub_dtls_pkg_protocol_handshake_errInvalidClientKeyExchange {H : Type} : DataW H := .iface "*errors.errorString" (.ptr (.agg [.lit (.string [117, 110, 97, 98, 108, 101, 32, 116, 111, 32, 100, 101, 116, 101, 114, 109, 105, 110, 101, 32, 105, 102, 32, 67, 108, 105, 101, 110, 116, 75, 101, 121, 69, 120, 99, 104, 97, 110, 103, 101, 32, 105, 115, 32, 97, 32, 112, 117, 98, 108, 105, 99, 32, 107, 101, 121, 32, 111, 114, 32, 80, 83, 75, 32, 73, 100, 101, 110, 116, 105, 116, 121])]))
def laid_pub_convoy_pub_dtls_pkg_protocol_handshake_errPublicKeyTooLong {H : Type} : DataW H := .iface "*errors.errorString" (.ptr (.agg [.lit (.string [112, 117, 98, 108, 105, 99, 32, 107, 101, 121, 32, 109, 117, 115, 116, 32, 110, 111, 116, 32, 98, 101, 32, 108, 111, 110, 103, 101, 114, 32, 116, 104, 97, 110, 32, 50, 53, 53, 32, 98, 121, 116, 101, 115])]))
def laid_pub_convoy_pub_dtls_pkg_protocol_handshake_errInvalidSignHashAlgorithm {H : Type} : DataW H := .iface "*errors.errorString" (.ptr (.agg [.lit (.string [105, 110, 118, 97, 108, 105, 100, 32, 115, 105, 103, 110, 97, 116, 117, 114, 101, 47, 104, 97, 115, 104, 32, 97, 108, 103, 111, 114, 105, 116, 104, 109])]))
def laid_pub_convoy_pub_dtls_pkg_protocol_handshake_errBufferTooSmall {H : Type} : DataW H := .iface "*errors.errorString" (.ptr (.agg [.lit (.string [98, 117, 102, 102, 101, 114, 32, 105, 115, 32, 116, 111, 111, 32, 115, 109, 97, 108, 108])]))

/-- 'laws.FnClientKeyBothWrite': WHATEVER THE INPUT: true; the input reads as it did. -/
def fnClientKeyBothWriteSpec : ChangeSpec := { name := "fnClientKeyBothWrite", fn := fun _ => fun
  | [d1, d2] => { results := [.lit (.bool true)], args := [d1, d2] }
  | _ => none }
def fnClientKeyBothWriteRow : OpenClaim := { program := "ytdnnhoggpakjbaadoor", sum := "7289bd48e3c4cc5d59caa5a81d0fda499968503e8992e037f4442e29f4183c57", func := "pub-convoy/laws.FnClientKeyBothWrite", spec := "fnClientKeyBothWrite", named := ["pub-convoy/pub/dtls/pkg/protocol/handshake.errInvalidClientKeyExchange", "encoding/binary.BigEndian", "pub-convoy/pub/dtls/pkg/protocol/handshake.errPublicKeyTooLong"], apart := false, laid := [("pub-convoy/pub/dtls/pkg/protocol/handshake.errInvalidClientKeyExchange", laid_pub_convoy_pub_dtls_pkg_protocol_handshake_errInvalidClientKeyExchange), ("pub-convoy/pub/dtls/pkg/protocol/handshake.errPublicKeyTooLong", laid_pub_convoy_pub_dtls_pkg_protocol_handshake_errPublicKeyTooLong)] }
def FnClientKeyBothWriteSaid : Prop := fnClientKeyBothWriteRow.holds Tryd.pinned (OpenSpec.ofChange fnClientKeyBothWriteSpec)

/-- ITS FALSE NEIGHBOUR: 'it returns false'. Refute it at one input. -/
def fnClientKeyBothWriteWrong : ChangeSpec := { name := "fnClientKeyBothWrite", fn := fun _ => fun
  | [d1, d2] => { results := [.lit (.bool false)], args := [d1, d2] }
  | _ => none }
def FnClientKeyBothWriteWrongFalsely : Prop := fnClientKeyBothWriteRow.holds Tryd.pinned (OpenSpec.ofChange fnClientKeyBothWriteWrong)

/-- 'laws.FnServerKeyPskWrite': WHATEVER THE INPUT: true; the input reads as it did. -/
def fnServerKeyPskWriteSpec : ChangeSpec := { name := "fnServerKeyPskWrite", fn := fun _ => fun
  | [d] => { results := [.lit (.bool true)], args := [d] }
  | _ => none }
def fnServerKeyPskWriteRow : OpenClaim := { program := "ytdnnhoggpakjbaadoor", sum := "7289bd48e3c4cc5d59caa5a81d0fda499968503e8992e037f4442e29f4183c57", func := "pub-convoy/laws.FnServerKeyPskWrite", spec := "fnServerKeyPskWrite", named := ["encoding/binary.BigEndian", "pub-convoy/pub/dtls/pkg/protocol/handshake.errInvalidSignHashAlgorithm"], apart := false, laid := [("pub-convoy/pub/dtls/pkg/protocol/handshake.errInvalidSignHashAlgorithm", laid_pub_convoy_pub_dtls_pkg_protocol_handshake_errInvalidSignHashAlgorithm)] }
def FnServerKeyPskWriteSaid : Prop := fnServerKeyPskWriteRow.holds Tryd.pinned (OpenSpec.ofChange fnServerKeyPskWriteSpec)

/-- ITS FALSE NEIGHBOUR: 'it returns false'. Refute it at one input. -/
def fnServerKeyPskWriteWrong : ChangeSpec := { name := "fnServerKeyPskWrite", fn := fun _ => fun
  | [d] => { results := [.lit (.bool false)], args := [d] }
  | _ => none }
def FnServerKeyPskWriteWrongFalsely : Prop := fnServerKeyPskWriteRow.holds Tryd.pinned (OpenSpec.ofChange fnServerKeyPskWriteWrong)

/-- 'laws.FnSuitesBack': WHATEVER THE INPUT: true; the input reads as it did. -/
def fnSuitesBackSpec : ChangeSpec := { name := "fnSuitesBack", fn := fun _ => fun
  | [d1, d2] => { results := [.lit (.bool true)], args := [d1, d2] }
  | _ => none }
def fnSuitesBackRow : OpenClaim := { program := "ytdnnhoggpakjbaadoor", sum := "7289bd48e3c4cc5d59caa5a81d0fda499968503e8992e037f4442e29f4183c57", func := "pub-convoy/laws.FnSuitesBack", spec := "fnSuitesBack", named := ["encoding/binary.BigEndian", "pub-convoy/pub/dtls/pkg/protocol/handshake.errBufferTooSmall"], apart := false, laid := [("pub-convoy/pub/dtls/pkg/protocol/handshake.errBufferTooSmall", laid_pub_convoy_pub_dtls_pkg_protocol_handshake_errBufferTooSmall)] }
def FnSuitesBackSaid : Prop := fnSuitesBackRow.holds Tryd.pinned (OpenSpec.ofChange fnSuitesBackSpec)

/-- ITS FALSE NEIGHBOUR: 'it returns false'. Refute it at one input. -/
def fnSuitesBackWrong : ChangeSpec := { name := "fnSuitesBack", fn := fun _ => fun
  | [d1, d2] => { results := [.lit (.bool false)], args := [d1, d2] }
  | _ => none }
def FnSuitesBackWrongFalsely : Prop := fnSuitesBackRow.holds Tryd.pinned (OpenSpec.ofChange fnSuitesBackWrong)

/- THE SECOND FORM. 'bulk': how many values and letters a reading holds, each counted each time it is reached (what is shared counts as often as it is met; a slice's spare places count too). A statement '..UptoSaid' is the law's where the arguments, and the package variables that the reading takes, are together of bulk at most 1048576: NARROWER than '..Said'. Prove '..Said' where nothing that the law and all that it calls make is longer than what came in: it says more and counts as full. Else prove '..UptoSaid'. A law counts once. -/
mutual
def uptoBulk {H : Type} : DataW H → Nat
  | .lit (.string bytes) => bytes.length + 1
  | .lit _ => 1
  | .nil => 1
  | .ptr d => uptoBulk d + 1
  | .slice elems spare => uptoBulkAll elems + uptoBulkAll spare + 1
  | .agg parts => uptoBulkAll parts + 1
  | .iface _ d => uptoBulk d + 1
  | .map entries => uptoBulkEntries entries + 1
  | .held _ => 1
def uptoBulkAll {H : Type} : List (DataW H) → Nat
  | [] => 0
  | d :: r => uptoBulk d + uptoBulkAll r
def uptoBulkEntries {H : Type} : List (Lit × DataW H) → Nat
  | [] => 0
  | x :: r => uptoBulkEntry x + uptoBulkEntries r
def uptoBulkEntry {H : Type} : Lit × DataW H → Nat
  | (.string bytes, d) => bytes.length + uptoBulk d + 1
  | (_, d) => uptoBulk d + 1
 end
def uptoSmall : (H : Type) → List (DataW H) → Bool := fun _ ds => decide (uptoBulkAll ds ≤ 1048576)
def OpenSpec.upto (s : _root_.Go.ChangeSpec) : _root_.Go.OpenSpec := { _root_.Go.OpenSpec.ofChange s with cond := some uptoSmall }

/-- 'laws.FnClientKeyBothWrite', WHERE WHAT IT READS IS OF BULK AT MOST 1048576: true; the input reads as it did. -/
def fnClientKeyBothWriteUptoRow : OpenClaim := { program := "ytdnnhoggpakjbaadoor", sum := "7289bd48e3c4cc5d59caa5a81d0fda499968503e8992e037f4442e29f4183c57", func := "pub-convoy/laws.FnClientKeyBothWrite", spec := "fnClientKeyBothWrite", named := ["pub-convoy/pub/dtls/pkg/protocol/handshake.errInvalidClientKeyExchange", "encoding/binary.BigEndian", "pub-convoy/pub/dtls/pkg/protocol/handshake.errPublicKeyTooLong"], apart := false, laid := [("pub-convoy/pub/dtls/pkg/protocol/handshake.errInvalidClientKeyExchange", laid_pub_convoy_pub_dtls_pkg_protocol_handshake_errInvalidClientKeyExchange), ("pub-convoy/pub/dtls/pkg/protocol/handshake.errPublicKeyTooLong", laid_pub_convoy_pub_dtls_pkg_protocol_handshake_errPublicKeyTooLong)], narrowed := true }
def FnClientKeyBothWriteUptoSaid : Prop := fnClientKeyBothWriteUptoRow.holds Tryd.pinned (OpenSpec.upto fnClientKeyBothWriteSpec)

/-- 'laws.FnServerKeyPskWrite', WHERE WHAT IT READS IS OF BULK AT MOST 1048576: true; the input reads as it did. -/
def fnServerKeyPskWriteUptoRow : OpenClaim := { program := "ytdnnhoggpakjbaadoor", sum := "7289bd48e3c4cc5d59caa5a81d0fda499968503e8992e037f4442e29f4183c57", func := "pub-convoy/laws.FnServerKeyPskWrite", spec := "fnServerKeyPskWrite", named := ["encoding/binary.BigEndian", "pub-convoy/pub/dtls/pkg/protocol/handshake.errInvalidSignHashAlgorithm"], apart := false, laid := [("pub-convoy/pub/dtls/pkg/protocol/handshake.errInvalidSignHashAlgorithm", laid_pub_convoy_pub_dtls_pkg_protocol_handshake_errInvalidSignHashAlgorithm)], narrowed := true }
def FnServerKeyPskWriteUptoSaid : Prop := fnServerKeyPskWriteUptoRow.holds Tryd.pinned (OpenSpec.upto fnServerKeyPskWriteSpec)

/-- 'laws.FnSuitesBack', WHERE WHAT IT READS IS OF BULK AT MOST 1048576: true; the input reads as it did. -/
def fnSuitesBackUptoRow : OpenClaim := { program := "ytdnnhoggpakjbaadoor", sum := "7289bd48e3c4cc5d59caa5a81d0fda499968503e8992e037f4442e29f4183c57", func := "pub-convoy/laws.FnSuitesBack", spec := "fnSuitesBack", named := ["encoding/binary.BigEndian", "pub-convoy/pub/dtls/pkg/protocol/handshake.errBufferTooSmall"], apart := false, laid := [("pub-convoy/pub/dtls/pkg/protocol/handshake.errBufferTooSmall", laid_pub_convoy_pub_dtls_pkg_protocol_handshake_errBufferTooSmall)], narrowed := true }
def FnSuitesBackUptoSaid : Prop := fnSuitesBackUptoRow.holds Tryd.pinned (OpenSpec.upto fnSuitesBackSpec)

end Rows
end Go.Proofs.YtdnnhoggpakjbaaDoor
