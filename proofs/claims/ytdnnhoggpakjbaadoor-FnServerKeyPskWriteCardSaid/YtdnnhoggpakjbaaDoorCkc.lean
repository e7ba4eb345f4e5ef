/-
  CONTRACT of MessageClientKeyExchange's Marshal with an identity and a key. Condition: identity below 65536 bytes, key below 256.
-/
import Derived.Test.YtdnnhoggpakjbaaDoorCkb
namespace Go.Proofs.YtdnnhoggpakjbaaDoor
open Go.RowKit
set_option linter.unusedVariables false
set_option linter.unusedSimpArgs false
theorem run_neq_slice_nil (wx : World) (a : Addr) (n c : Nat) : (binOp .neq 26 (.slice (some a) n c) (.slice none 0 0)).run Tryd.prog wx = .ok (.bool true) wx := by
  simp only [binOp]
  simp [Op.equal, Op.maxDepth, Lib.run_equalIn_slice_nil wx 9999 26 5 (some a) n c 0 0 Tryd.underlying26]

theorem own_two (w : World) (base : Nat) (hb : base ≤ w.heap.size) : Own (w.alloc (.cells #[.int .u8 0, .int .u8 0] 5)) base 5 w.heap.size 2 [0, 0] :=
  World.ownsRow_lit w #[.int .u8 0, .int .u8 0] 2 hb (by decide) rfl
theorem bytes_one (w : World) (n : Nat) (hn : n < 256) : Bytes (w.alloc (.cells #[.int .u8 n] 5)) w.heap.size 0 (bigL n 1) := by
  intro i hi
  have hi0 : i = 0 := by
    have := bigL_length n 1
    omega
  subst hi0
  have e : ((bigL n 1)[0]'hi) = UInt8.ofNat n := by simp [bigL]
  rw [e]
  have h := (Blk.new w 5 #[.int .u8 n]).at 0 _ rfl
  have h2 : ((UInt8.ofNat n).toNat : Int) = n := by simp; omega
  rw [h2]
  exact h

def MarOk (l : List UInt8) (w w' : World) (e : Ending) : Prop :=
  ∃ k cap, e = .returned (.tuple #[.slice (some ⟨k, 0, none⟩) l.length cap, .nilIface]) ∧ Bytes w' k 0 l ∧ Below w.heap.size w w'

set_option maxHeartbeats 8000000 in
set_option maxRecDepth 100000 in
theorem mar_ok (p g0 c0 g1 c1 n0 n1 : Nat) (l0 l1 : List UInt8) (w : World) (hX : Blk w p 60 #[.slice (some ⟨g0, 0, none⟩) n0 c0, .slice (some ⟨g1, 0, none⟩) n1 c1, .int .i64 6]) (hB0 : Bytes w g0 0 l0) (hB1 : Bytes w g1 0 l1) (hl0 : l0.length = n0) (hl1 : l1.length = n1) (hg0 : g0 < w.heap.size) (hg1 : g1 < w.heap.size) (hn0 : n0 < 65536) (hn1 : n1 < 256) :
    Calls Tryd.prog 14 #[.pointer (some ⟨p, 0, none⟩)] w fun e w' => MarOk ((bigL n0 2 ++ l0) ++ (bigL n1 1 ++ l1)) w w' e := by
  have hp := hX.lt
  have x0 := hX.at 0 (.slice (some ⟨g0, 0, none⟩) n0 c0) rfl
  have x1 := hX.at 1 (.slice (some ⟨g1, 0, none⟩) n1 c1) rfl
  have hnil : ∀ (wx : World) (a : Addr) (n c : Nat), (binOp .eql 26 (.slice (some a) n c) (.slice none 0 0)).run Tryd.prog wx = .ok (.bool false) wx := fun wx a n c => Lib.run_eql_slice_nil wx 26 5 (some a) n c 0 0 Tryd.underlying26
  have hneq := run_neq_slice_nil
  have HX := Lib.hid hX
  have HB0 := Lib.hid hB0
  have HB1 := Lib.hid hB1
  have HL := Lib.hid (And.intro hl0 (And.intro hl1 (And.intro hn0 hn1)))
  clear hX hB0 hB1 hl0 hl1 hn0
  go_enter Tryd.func14, Tryd.ntmps14
  go_wp2_with (at_builtin; refine wpList_append_bytes _ rfl (.tmp 22) (.tmp 26) 26 rfl w.heap.size 5 Tryd.underlying26 infoU8 w.heap.size 2 2 [0, 0] rfl rfl (own_two w _ (Nat.le_refl _)) g0 0 n0 c0 l0 rfl HL.out.1 (HB0.out.alloc hg0 _) (by have := HL.out; omega) (by simp) ?_; intro k2 cap2 w2 hown2 hgr2 hat2)
  have hkb := hown2.base_le
  have hbA : Below w.heap.size w w2 := ((Below.refl _ _).alloc (Nat.le_refl _) _).trans (below_grown hgr2 (by simp))
  have hbA' : Below w.heap.size w w2 := hbA
  have hw1 : IntKind.u16.wrap (wrap64 (2 + (n0 : Int) - 2)) = n0 := by
    have := HL.out
    rw [show wrap64 (2 + (n0 : Int) - 2) = n0 by unfold wrap64; omega]
    simp only [IntKind.wrap, IntKind.bits, IntKind.signed, Bool.false_and, if_neg Bool.false_ne_true]
    omega
  rw [hw1]
  clear hw1
  refine (put16_ok w.heap.size k2 cap2 (2 + n0) cap2 ([0, 0] ++ l0) n0 HL.out.2.2.1 (by simp [HL.out.1]; omega) (by omega) w2 hown2 .nilIface).mono ?_
  rintro e w3 ⟨rfl, hown3, hgr3⟩
  have hown3 : Own w3 w.heap.size 5 k2 cap2 (bigL n0 2 ++ l0) := hown3
  have hb3 : Below w.heap.size w w3 := ⟨hgr3.os.trans hbA.os, hgr3.tape.trans hbA.tape, hgr3.output.trans hbA.output, Nat.le_trans hbA.size hgr3.size, fun k hk => (hgr3.block k (by have := hbA.size; omega) (fun e => by injection e with e; omega)).trans (hbA.block k hk)⟩
  have hs3 := hb3.size
  have y1 := (HX.out.below hb3 hp).at 1 (.slice (some ⟨g1, 0, none⟩) n1 c1) rfl
  have hl3 : (bigL n0 2 ++ l0).length = 2 + n0 := by rw [List.length_append, bigL_length, HL.out.1]
  have hk3 : k2 < w3.heap.size := by have := hgr3.size; omega
  have hba3 : Below w3.heap.size w3 (w3.alloc (.cells #[.int .u8 n1] 5)) := (Below.refl _ _).alloc (Nat.le_refl _) _
  have H3 := Lib.hid (And.intro (hown3.below hba3 hk3) (And.intro hb3 hl3))
  have hn1i : (n1 : Int) ≤ 255 := by omega
  have hw8 : IntKind.u8.wrap (n1 : Int) = n1 := by
    simp only [IntKind.wrap, IntKind.bits, IntKind.signed, Bool.false_and, if_neg Bool.false_ne_true]
    omega
  have hbo := Lib.hid (bytes_one w3 n1 hn1)
  have hs3' : w.heap.size ≤ (w3.alloc (.cells #[.int .u8 n1] 5)).heap.size := by simp; omega
  have HS3 := Lib.hid hs3'
  have fin4 : ∀ w4, (w3.alloc (.cells #[.int .u8 n1] 5)).grownBy w4 (some k2) → Below w.heap.size w w4 := fun w4 hg => ⟨hg.os.trans hb3.os, hg.tape.trans hb3.tape, hg.output.trans hb3.output, Nat.le_trans hs3' hg.size, fun k hk => ((hg.block k (by simp; omega) (fun e => by injection e with e; omega)).trans (hba3.block k (by omega))).trans (hb3.block k hk)⟩
  have FIN4 := Lib.hid fin4
  clear hown2 hgr2 hat2 hown3 hgr3 hb3 hl3 hbA hbA' hba3 hs3' fin4 hn1
  go_wp2_with (first
    | (at_builtin; refine wpList_append_bytes _ rfl (.tmp 47) (.tmp 54) 26 rfl w.heap.size 5 Tryd.underlying26 infoU8 k2 cap2 (2 + n0) (bigL n0 2 ++ l0) rfl H3.out.2.2 H3.out.1 w3.heap.size 0 1 1 (bigL n1 1) rfl (bigL_length n1 1) hbo.out (by have := HL.out; omega) HS3.out ?_; intro k4 cap4 w4 hown4 hgr4 hat4; have hb4 := FIN4.out w4 hgr4; have z1 := (HX.out.below hb4 hp).at 1 (.slice (some ⟨g1, 0, none⟩) n1 c1) rfl; have H4 := Lib.hid (And.intro hown4 hb4); clear hown4 hb4 hgr4 hat4)
    | (at_builtin; refine wpList_append_bytes _ rfl (.tmp 56) (.tmp 60) 26 rfl w.heap.size 5 Tryd.underlying26 infoU8 k4 cap4 (2 + n0 + 1) ((bigL n0 2 ++ l0) ++ bigL n1 1) rfl (by rw [List.length_append, bigL_length, H3.out.2.2]) H4.out.1 g1 0 n1 c1 l1 rfl HL.out.2.1 (HB1.out.below H4.out.2 hg1) (by have := HL.out; omega) H4.out.2.size ?_; intro k5 cap5 w5 hown5 hgr5 hat5))
  go_ret2
  have hb5 : Below w.heap.size w w5 := by
    have h4 := H4.out.2
    have hk4 := H4.out.1.base_le
    exact ⟨hgr5.os.trans h4.os, hgr5.tape.trans h4.tape, hgr5.output.trans h4.output, Nat.le_trans h4.size hgr5.size, fun k hk => (hgr5.block k (by have := h4.size; omega) (fun e => by injection e with e; omega)).trans (h4.block k hk)⟩
  rw [List.append_assoc] at hown5
  refine ⟨k5, cap5, ?_, hown5.bytes, hb5⟩
  have hlen : ((bigL n0 2 ++ l0) ++ (bigL n1 1 ++ l1)).length = 2 + n0 + 1 + n1 := by
    simp only [List.length_append, bigL_length, HL.out.1, HL.out.2.1]
    omega
  rw [hlen]
  rfl
end Go.Proofs.YtdnnhoggpakjbaaDoor
