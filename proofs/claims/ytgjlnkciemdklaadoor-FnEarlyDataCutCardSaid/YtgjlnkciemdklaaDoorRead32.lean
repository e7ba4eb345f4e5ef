/-
  CONTRACT of String.ReadUint32 where there is enough. Condition: as in XRead.
-/
import Derived.Test.YtgjlnkciemdklaaDoorRead
namespace Go.Proofs.YtgjlnkciemdklaaDoor
open Go.RowKit
set_option linter.unusedVariables false
set_option linter.unusedSimpArgs false

def U32Ok (p b q : Nat) (l : List UInt8) (w w' : World) (e : Ending) : Prop :=
  e = .returned (.bool true) ∧ Str w' p b (l.drop 4) ∧ (∃ v : Int, w'.cell? ⟨q, 0, none⟩ = some (.int .u32 v)) ∧ Red w w' p q

set_option maxHeartbeats 2000000 in
set_option maxRecDepth 100000 in
theorem u32_ok (p b q : Nat) (l : List UInt8) (w : World) (h : Str w p b l) (hk : 4 ≤ l.length) (hl : l.length < 2147483648) (old : Value) (hq : w.cell? ⟨q, 0, none⟩ = some old) (hf : w.frozen? ⟨q, 0, none⟩ = false) (hqp : q ≠ p) (hqb : q ≠ b) :
    Calls Tryd.prog 88 #[.pointer (some ⟨p, 0, none⟩), .pointer (some ⟨q, 0, none⟩)] w fun e w' => U32Ok p b q l w w' e := by
  have hbl : b < w.heap.size := by
    obtain ⟨_, _, _, _, hB, _⟩ := h
    exact hB.lt (by omega)
  have HR := Lib.hid (read_ok p b 4 l w h hk hl)
  have hnil : ∀ (wx : World) (a : Addr) (n c : Nat), (binOp .eql 68 (.slice (some a) n c) (.slice none 0 0)).run Tryd.prog wx = .ok (.bool false) wx := fun wx a n c => Lib.run_eql_slice_nil wx 68 5 (some a) n c 0 0 Tryd.underlying68
  have hl2 : (l.take 4).length = 4 := by simp; omega
  have H2 := Lib.hid hl2
  have hq1 : ∀ u, (w.setCell ⟨p, 0, none⟩ u).cell? ⟨q, 0, none⟩ = some old := fun u => (World.cell?_setCell_other w ⟨p, 0, none⟩ ⟨q, 0, none⟩ u (fun e => hqp (by injection e with e; exact e.symm))).trans hq
  have hf1 : ∀ u, (w.setCell ⟨p, 0, none⟩ u).frozen? ⟨q, 0, none⟩ = false := fun u => by simpa using hf
  have HQ := Lib.hid hq1
  have HF := Lib.hid hf1
  clear h hl2 hq1 hf1 hq hf
  go_enter Tryd.func88, Tryd.ntmps88
  go_wp2_with (go_at_call 113; refine HR.out.mono ?_; rintro e w1 ⟨off, c, off', c', rfl, hc, hB, hw1, hS⟩; have HW := Lib.hid hw1; clear hw1)
  have hl2 := H2.out
  have hB1 : Bytes w1 b off (l.take 4) := by
    obtain ⟨_, _, hXs, _, hBs, hpbs⟩ := hS
    rw [HW.out]
    exact hB.setCell (p := ⟨p, 0, none⟩) (fun e => hpbs e.symm) _
  have k0 := hB1.getD 0 (by omega)
  have k1 := hB1.getD 1 (by omega)
  have k2 := hB1.getD 2 (by omega)
  have k3 := hB1.getD 3 (by omega)
  have hq : w1.cell? ⟨q, 0, none⟩ = some old := by rw [HW.out]; exact HQ.out _
  have hf : w1.frozen? ⟨q, 0, none⟩ = false := by rw [HW.out]; exact HF.out _
  have hb0 : ((l.take 4).getD 0 0).toNat < 256 := UInt8.toNat_lt _
  have hb1 : ((l.take 4).getD 1 0).toNat < 256 := UInt8.toNat_lt _
  have hb2 : ((l.take 4).getD 2 0).toNat < 256 := UInt8.toNat_lt _
  have hb3 : ((l.take 4).getD 3 0).toNat < 256 := UInt8.toNat_lt _
  clear hB hB1
  rw [Nat.add_zero] at k0
  generalize ((l.take 4).getD 0 0).toNat = x0 at *
  generalize ((l.take 4).getD 1 0).toNat = x1 at *
  generalize ((l.take 4).getD 2 0).toNat = x2 at *
  generalize ((l.take 4).getD 3 0).toNat = x3 at *
  go_region
  go_wp2
  go_ret
  refine ⟨rfl, (hS.far (a := ⟨q, 0, none⟩) (fun e => hqp e.symm) (fun e => hqb e.symm) _).drew, ⟨_, World.cell?_setCell_same _ _ _ hq⟩, ?_⟩
  rw [HW.out]
  exact Red.set2 _ _ _ _ _ _
end Go.Proofs.YtgjlnkciemdklaaDoor
