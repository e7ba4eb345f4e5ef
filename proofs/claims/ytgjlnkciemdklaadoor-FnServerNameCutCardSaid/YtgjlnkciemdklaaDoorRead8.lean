/-
  CONTRACT of String.ReadUint8 where there is enough. Condition: as in XRead.
-/
import Derived.Test.YtgjlnkciemdklaaDoorRead
namespace Go.Proofs.YtgjlnkciemdklaaDoor
open Go.RowKit
set_option linter.unusedVariables false
set_option linter.unusedSimpArgs false

def U8Ok (p b q : Nat) (l : List UInt8) (w w' : World) (e : Ending) : Prop :=
  e = .returned (.bool true) ∧ Str w' p b (l.drop 1) ∧ w'.cell? ⟨q, 0, none⟩ = some (.int .u8 ((l.getD 0 0).toNat : Int)) ∧ Red w w' p q
theorem Red.set2n (w : World) (p q j : Nat) (u v : Value) : Red w ((w.setCell ⟨p, 0, none⟩ u).setCell ⟨q, j, none⟩ v) p q :=
  ⟨rfl, rfl, rfl, by simp, fun k _ h1 h2 => (Below.heap_setCell _ ⟨q, j, none⟩ v k h2).trans (Below.heap_setCell w ⟨p, 0, none⟩ u k h1)⟩

set_option maxHeartbeats 2000000 in
set_option maxRecDepth 100000 in
theorem u8_ok (p b q : Nat) (l : List UInt8) (w : World) (h : Str w p b l) (hk : 1 ≤ l.length) (hl : l.length < 2147483648) (old : Value) (hq : w.cell? ⟨q, 0, none⟩ = some old) (hf : w.frozen? ⟨q, 0, none⟩ = false) (hqp : q ≠ p) (hqb : q ≠ b) :
    Calls Tryd.prog 99 #[.pointer (some ⟨p, 0, none⟩), .pointer (some ⟨q, 0, none⟩)] w fun e w' => U8Ok p b q l w w' e := by
  have hbl : b < w.heap.size := by
    obtain ⟨_, _, _, _, hB, _⟩ := h
    exact hB.lt (by omega)
  have HR := Lib.hid (read_ok p b 1 l w h hk hl)
  have hnil : ∀ (wx : World) (a : Addr) (n c : Nat), (binOp .eql 68 (.slice (some a) n c) (.slice none 0 0)).run Tryd.prog wx = .ok (.bool false) wx := fun wx a n c => Lib.run_eql_slice_nil wx 68 5 (some a) n c 0 0 Tryd.underlying68
  have hl2 : (l.take 1).length = 1 := by simp; omega
  have H2 := Lib.hid hl2
  have hq1 : ∀ u, (w.setCell ⟨p, 0, none⟩ u).cell? ⟨q, 0, none⟩ = some old := fun u => (World.cell?_setCell_other w ⟨p, 0, none⟩ ⟨q, 0, none⟩ u (fun e => hqp (by injection e with e; exact e.symm))).trans hq
  have hf1 : ∀ u, (w.setCell ⟨p, 0, none⟩ u).frozen? ⟨q, 0, none⟩ = false := fun u => by simpa using hf
  have HQ := Lib.hid hq1
  have HF := Lib.hid hf1
  clear h hl2 hq1 hf1 hq hf
  go_enter Tryd.func99, Tryd.ntmps99
  go_wp2_with (go_at_call 113; refine HR.out.mono ?_; rintro e w1 ⟨off, c, off', c', rfl, hc, hB, hw1, hS⟩; have HW := Lib.hid hw1; clear hw1; have hB1 : Bytes w1 b off (l.take 1) := (by obtain ⟨_, _, hXs, _, hBs, hpbs⟩ := hS; rw [HW.out]; exact hB.setCell (p := ⟨p, 0, none⟩) (fun e => hpbs e.symm) _); have k0 := hB1.getD 0 (by have := H2.out; omega); rw [Nat.add_zero] at k0; have hq : w1.cell? ⟨q, 0, none⟩ = some old := (by rw [HW.out]; exact HQ.out _); have hf : w1.frozen? ⟨q, 0, none⟩ = false := (by rw [HW.out]; exact HF.out _); have e0 : ((l.take 1).getD 0 0) = (l.getD 0 0) := (by simp [List.getD, List.getElem?_take]); rw [e0] at k0)
  go_ret
  refine ⟨rfl, hS.far (a := ⟨q, 0, none⟩) (fun e => hqp e.symm) (fun e => hqb e.symm) _, World.cell?_setCell_same _ _ _ hq, ?_⟩
  rw [HW.out]
  exact Red.set2n _ _ _ _ _ _
end Go.Proofs.YtgjlnkciemdklaaDoor
