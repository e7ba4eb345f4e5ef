/-
  CONTRACT of MessageServerKeyExchange's Marshal with an identity alone. Condition: identity below 65536 bytes.
-/
import Derived.Test.YtdnnhoggpakjbaaDoorSkA
namespace Go.Proofs.YtdnnhoggpakjbaaDoor
open Go.RowKit
set_option linter.unusedVariables false
set_option linter.unusedSimpArgs false
set_option maxHeartbeats 8000000 in
set_option maxRecDepth 100000 in
theorem mar_sk (p g0 c0 n0 : Nat) (u v : Value) (l0 : List UInt8) (w : World) (hX : Blk w p 69 (skC g0 c0 n0 u v)) (hB0 : Bytes w g0 0 l0) (hl0 : l0.length = n0) (hg0 : g0 < w.heap.size) (hn0 : n0 < 65536) :
    Calls Tryd.prog 16 #[.pointer (some ⟨p, 0, none⟩)] w fun e w' => MarOk (bigL n0 2 ++ l0) w w' e := by
  have hp := hX.lt
  have x0 := hX.at 0 (.slice (some ⟨g0, 0, none⟩) n0 c0) rfl
  have hneq := run_neq_slice_nil
  have HX := Lib.hid hX
  have HB0 := Lib.hid hB0
  have HL := Lib.hid (And.intro hl0 hn0)
  clear hX hB0 hl0 hn0
  go_enter Tryd.func16, Tryd.ntmps16
  go_wp2_with (at_builtin; refine wpList_append_bytes _ rfl (.tmp 11) (.tmp 15) 26 rfl w.heap.size 5 Tryd.underlying26 infoU8 w.heap.size 2 2 [0, 0] rfl rfl (own_two w _ (Nat.le_refl _)) g0 0 n0 c0 l0 rfl HL.out.1 (HB0.out.alloc hg0 _) (by have := HL.out; omega) (by simp) ?_; intro k2 cap2 w2 hown2 hgr2 hat2)
  have hkb := hown2.base_le
  have hbA : Below w.heap.size w w2 := ((Below.refl _ _).alloc (Nat.le_refl _) _).trans (below_grown hgr2 (by simp))
  have hw1 : IntKind.u16.wrap (wrap64 (2 + (n0 : Int) - 2)) = n0 := by
    have := HL.out
    rw [show wrap64 (2 + (n0 : Int) - 2) = n0 by unfold wrap64; omega]
    simp only [IntKind.wrap, IntKind.bits, IntKind.signed, Bool.false_and, if_neg Bool.false_ne_true]
    omega
  rw [hw1]
  clear hw1
  refine (put16_ok w.heap.size k2 cap2 (2 + n0) cap2 ([0, 0] ++ l0) n0 HL.out.2 (by simp [HL.out.1]; omega) (by omega) w2 hown2 .nilIface).mono ?_
  rintro e w3 ⟨rfl, hown3, hgr3⟩
  have hown3 : Own w3 w.heap.size 5 k2 cap2 (bigL n0 2 ++ l0) := hown3
  have hb3 : Below w.heap.size w w3 := ⟨hgr3.os.trans hbA.os, hgr3.tape.trans hbA.tape, hgr3.output.trans hbA.output, Nat.le_trans hbA.size hgr3.size, fun k hk => (hgr3.block k (by have := hbA.size; omega) (fun e => by injection e with e; omega)).trans (hbA.block k hk)⟩
  have y1 := (HX.out.below hb3 hp).at 1 (.int .u8 0) rfl
  have hl3 : (bigL n0 2 ++ l0).length = 2 + n0 := by rw [List.length_append, bigL_length, HL.out.1]
  have H3 := Lib.hid (And.intro hown3.bytes (And.intro hb3 hl3))
  clear hown2 hgr2 hat2 hown3 hgr3 hb3 hl3 hbA x0
  go_wp2_with fail
  go_ret2
  refine ⟨k2, cap2, ?_, H3.out.1, H3.out.2.1⟩
  rw [H3.out.2.2]
  rfl
end Go.Proofs.YtdnnhoggpakjbaaDoor
