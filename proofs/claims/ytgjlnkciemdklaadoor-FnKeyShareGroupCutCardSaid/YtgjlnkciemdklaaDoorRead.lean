/-
  CONTRACTS OF cryptobyte.String's readers: read, ReadUint16, the length-prefixed ones. Condition: the String is a variable of its own (a whole block), the bytes lie in another block.
-/
import Derived.Test.YtgjlnkciemdklaaDoorBlk
import Derived.Test.YtgjlnkciemdklaaDoorMem
import Derived.Test.YtgjlnkciemdklaaDoorEnd16
import Derived.Test.YtgjlnkciemdklaaDoorCopy
import Derived.Test.YtgjlnkciemdklaaDoorBig
import Derived.BigRegion
import Derived.Deep.Cut
import Derived.Lib.SliceRun
import Derived.Maps.RangeWalk
namespace Go.Proofs.YtgjlnkciemdklaaDoor
open Go.RowKit
set_option linter.unusedVariables false
set_option linter.unusedSimpArgs false

/-- A variable p that holds a String of the bytes l, which lie in block b. -/
def Str (w : World) (p b : Nat) (l : List UInt8) : Prop := ∃ off c, Blk w p 152 #[.slice (some ⟨b, off, none⟩) l.length c] ∧ l.length ≤ c ∧ Bytes w b off l ∧ p ≠ b

/-- What read answers where there is enough. -/
def ReadOk (p b k : Nat) (l : List UInt8) (w w' : World) (e : Ending) : Prop :=
  ∃ off c off' c', e = .returned (.slice (some ⟨b, off, none⟩) k c) ∧ k ≤ c ∧ Bytes w b off (l.take k) ∧ w' = w.setCell ⟨p, 0, none⟩ (.slice (some ⟨b, off', none⟩) (l.length - k : Nat) c') ∧ Str w' p b (l.drop k)

set_option maxHeartbeats 1000000 in
set_option maxRecDepth 100000 in
theorem read_ok (p b k : Nat) (l : List UInt8) (w : World) (h : Str w p b l) (hk : k ≤ l.length) (hl : l.length < 2147483648) :
    Calls Tryd.prog 113 #[.pointer (some ⟨p, 0, none⟩), .int .i64 k] w fun e w' => ReadOk p b k l w w' e := by
  obtain ⟨off, c, hX, hc, hB, hpb⟩ := h
  have x0 := hX.at 0 (.slice (some ⟨b, off, none⟩) l.length c) rfl
  have f0 := hX.frozen 0
  have hki : (k : Int) ≤ l.length := by omega
  have hkn : ¬ ((l.length : Int) < k) := by omega
  have HB := Lib.hid hB
  have HX := Lib.hid hX
  generalize hn : l.length = n at *
  have HN := Lib.hid hn
  clear hB hX hn
  go_enter Tryd.func113, Tryd.ntmps113
  go_wp2
  · go_ret
    have hB := HB.out
    have hX := HX.out
    have hln := HN.out
    have hnk : n = k := by omega
    have hX' := hX.set_ 0 (.slice (some ⟨b, off, none⟩) (n - k : Nat) 0)
    have hd : l.drop k = [] := List.drop_of_length_le (by omega)
    refine ⟨off, _, off, 0, rfl, Nat.le_refl _, hB.take k, ?_, off, 0, ?_, ?_, ?_, hpb⟩
    · rw [hln]
    · have := hX.set_ 0 (.slice (some ⟨b, off, none⟩) (n - k : Nat) 0)
      rw [hd]
      simpa [hnk] using this
    · rw [hd]; exact Nat.zero_le _
    · rw [hd]; intro i hi; simp at hi
  · go_ret
    have hB := HB.out
    have hX := HX.out
    have hln := HN.out
    refine ⟨off, c, off + k, c - k, rfl, by omega, hB.take k, by rw [hln], off + k, c - k, ?_, ?_, ?_, hpb⟩
    · have := hX.set_ 0 (.slice (some ⟨b, off + k, none⟩) (n - k) (c - k))
      simpa [hln] using this
    · simp; omega
    · exact (hB.drop k).setCell (p := ⟨p, 0, none⟩) (fun e => hpb e.symm) _

/-- What a reader leaves: the String without its head, a value in the variable q, all else as it was. -/
structure Red (w w' : World) (p q : Nat) : Prop where
  os : w'.os = w.os
  tape : w'.tape = w.tape
  output : w'.output = w.output
  size : w.heap.size ≤ w'.heap.size
  block : ∀ k, k < w.heap.size → k ≠ p → k ≠ q → w'.heap[k]? = w.heap[k]?

theorem Red.below {w w' : World} {p q B : Nat} (h : Red w w' p q) (hp : B ≤ p) (hq : B ≤ q) (hB : B ≤ w.heap.size) : Below B w w' :=
  ⟨h.os, h.tape, h.output, h.size, fun k hk => h.block k (by omega) (by omega) (by omega)⟩
theorem Red.blk {w w' : World} {p q g : Nat} {t : TypeId} {cs : Array Value} (h : Red w w' p q) (hb : Blk w g t cs) (h1 : g ≠ p) (h2 : g ≠ q) : Blk w' g t cs := (h.block g hb.lt h1 h2).trans hb
theorem Red.bytes {w w' : World} {p q b off : Nat} {l : List UInt8} (h : Red w w' p q) (hB : Bytes w b off l) (hb : b < w.heap.size) (h1 : b ≠ p) (h2 : b ≠ q) : Bytes w' b off l :=
  fun i hi => (World.cell?_of_block (h.block b hb h1 h2)).trans (hB i hi)
theorem Red.set2 (w : World) (p q j : Nat) (u v : Value) : Red w ((w.setCell ⟨p, 0, none⟩ u).setCell ⟨q, j, none⟩ v).drew p q :=
  ⟨rfl, rfl, rfl, by simp, fun k _ h1 h2 => (Below.heap_setCell _ ⟨q, j, none⟩ v k h2).trans (Below.heap_setCell w ⟨p, 0, none⟩ u k h1)⟩
theorem Str.lt {w : World} {p b : Nat} {l : List UInt8} (h : Str w p b l) : p < w.heap.size := by
  obtain ⟨_, _, hX, _⟩ := h
  exact hX.lt
theorem Str.red {w w' : World} {p b p' q : Nat} {l : List UInt8} (h : Str w p b l) (r : Red w w' p' q) (hb : b < w.heap.size) (h1 : p ≠ p') (h2 : p ≠ q) (h3 : b ≠ p') (h4 : b ≠ q) : Str w' p b l := by
  obtain ⟨off, c, hX, hc, hB, hpb⟩ := h
  exact ⟨off, c, r.blk hX h1 h2, hc, r.bytes hB hb h3 h4, hpb⟩
theorem Str.below {w w' : World} {B p b : Nat} {l : List UInt8} (h : Str w p b l) (r : Below B w w') (hp : p < B) (hb : b < B) : Str w' p b l := by
  obtain ⟨off, c, hX, hc, hB, hpb⟩ := h
  exact ⟨off, c, hX.below r hp, hc, hB.below r hb, hpb⟩
theorem Str.far {w : World} {p b : Nat} {l : List UInt8} (h : Str w p b l) {a : Addr} (h1 : p ≠ a.block) (h2 : b ≠ a.block) (u : Value) : Str (w.setCell a u) p b l := by
  obtain ⟨off, c, hX, hc, hB, hpb⟩ := h
  exact ⟨off, c, hX.far h1 u, hc, hB.setCell h2 u, hpb⟩
theorem Str.drew {w : World} {p b : Nat} {l : List UInt8} (h : Str w p b l) : Str w.drew p b l := h

set_option maxHeartbeats 1000000 in
set_option maxRecDepth 100000 in
/-- read where there is not enough: nothing, and nothing written. -/
theorem read_no (p b k : Nat) (l : List UInt8) (w : World) (h : Str w p b l) (hk : l.length < k) (hl : l.length < 2147483648) :
    Calls Tryd.prog 113 #[.pointer (some ⟨p, 0, none⟩), .int .i64 k] w fun e w' => e = .returned (.slice none 0 0) ∧ w = w' := by
  obtain ⟨off, c, hX, hc, hB, hpb⟩ := h
  have x0 := hX.at 0 (.slice (some ⟨b, off, none⟩) l.length c) rfl
  have hki : (l.length : Int) < k := by omega
  clear hB hX hc
  go_enter Tryd.func113, Tryd.ntmps113
  go_wp2
  go_ret
  exact ⟨rfl, rfl⟩

/-- What ReadUint16 leaves where there is enough. -/
def U16Ok (p b q : Nat) (l : List UInt8) (w w' : World) (e : Ending) : Prop :=
  e = .returned (.bool true) ∧ Str w' p b (l.drop 2) ∧ w'.cell? ⟨q, 0, none⟩ = some (.int .u16 (two l 0)) ∧ Red w w' p q

set_option maxHeartbeats 2000000 in
set_option maxRecDepth 100000 in
theorem u16_ok (p b q n : Nat) (l : List UInt8) (w : World) (h : Str w p b l) (hk : 2 ≤ l.length) (hl : l.length < 2147483648) (hn : two l 0 = n) (old : Value) (hq : w.cell? ⟨q, 0, none⟩ = some old) (hf : w.frozen? ⟨q, 0, none⟩ = false) (hqp : q ≠ p) (hqb : q ≠ b) :
    Calls Tryd.prog 84 #[.pointer (some ⟨p, 0, none⟩), .pointer (some ⟨q, 0, none⟩)] w fun e w' => U16Ok p b q l w w' e := by
  have hbl : b < w.heap.size := by
    obtain ⟨_, _, _, _, hB, _⟩ := h
    exact hB.lt (by omega)
  have HR := Lib.hid (read_ok p b 2 l w h hk hl)
  have hnil : ∀ (wx : World) (a : Addr) (n c : Nat), (binOp .eql 68 (.slice (some a) n c) (.slice none 0 0)).run Tryd.prog wx = .ok (.bool false) wx := fun wx a n c => Lib.run_eql_slice_nil wx 68 5 (some a) n c 0 0 Tryd.underlying68
  have hl2 : (l.take 2).length = 2 := by simp; omega
  have H2 := Lib.hid hl2
  have hq1 : ∀ u, (w.setCell ⟨p, 0, none⟩ u).cell? ⟨q, 0, none⟩ = some old := fun u => (World.cell?_setCell_other w ⟨p, 0, none⟩ ⟨q, 0, none⟩ u (fun e => hqp (by injection e with e; exact e.symm))).trans hq
  have hf1 : ∀ u, (w.setCell ⟨p, 0, none⟩ u).frozen? ⟨q, 0, none⟩ = false := fun u => by simpa using hf
  have HQ := Lib.hid hq1
  have HF := Lib.hid hf1
  have HT := Lib.hid (show (l.getD 0 0).toNat * 256 + (l.getD 1 0).toNat = n from hn)
  clear h hl2 hq1 hf1 hq hf hn
  go_enter Tryd.func84, Tryd.ntmps84
  go_wp2_with (go_at_call 113; refine HR.out.mono ?_; rintro e w1 ⟨off, c, off', c', rfl, hc, hB, hw1, hS⟩; have HW := Lib.hid hw1; clear hw1)
  have hl2 := H2.out
  have hB1 : Bytes w1 b off (l.take 2) := by
    obtain ⟨_, _, hXs, _, hBs, hpbs⟩ := hS
    rw [HW.out]
    exact hB.setCell (p := ⟨p, 0, none⟩) (fun e => hpbs e.symm) _
  have k0 := hB1.getD 0 (by omega)
  have k1 := hB1.getD 1 (by omega)
  have hq : w1.cell? ⟨q, 0, none⟩ = some old := by rw [HW.out]; exact HQ.out _
  have hf : w1.frozen? ⟨q, 0, none⟩ = false := by rw [HW.out]; exact HF.out _
  have hb0 : ((l.take 2).getD 0 0).toNat < 256 := UInt8.toNat_lt _
  have hb1 : ((l.take 2).getD 1 0).toNat < 256 := UInt8.toNat_lt _
  have e0 : ((l.take 2).getD 0 0).toNat = (l.getD 0 0).toNat := by simp [List.getD, List.getElem?_take]
  have e1 : ((l.take 2).getD 1 0).toNat = (l.getD 1 0).toNat := by simp [List.getD, List.getElem?_take]
  have HT' := Lib.hid (show ((l.take 2).getD 0 0).toNat * 256 + ((l.take 2).getD 1 0).toNat = n by rw [e0, e1]; exact HT.out)
  clear e0 e1 hB hB1
  rw [Nat.add_zero] at k0
  generalize ((l.take 2).getD 0 0).toNat = x0 at *
  generalize ((l.take 2).getD 1 0).toNat = x1 at *
  go_region
  go_wp2
  go_ret
  have e : bits BinOp.or IntKind.u16 ((x0 : Int) * 256) x1 = (x0 : Int) * 256 + x1 := bits_join .u16 16 (by decide) wraps_u16 8 _ _ (by omega) (by omega) (by omega) (by omega) (by omega) (by omega)
  have hv : bits BinOp.or IntKind.u16 ((x0 : Int) * 256) x1 = (two l 0 : Nat) := by
    rw [e, show two l 0 = n from HT.out, ← HT'.out]
    omega
  rw [hv]
  refine ⟨rfl, (hS.far (a := ⟨q, 0, none⟩) (fun e => hqp e.symm) (fun e => hqb e.symm) _).drew, ?_, ?_⟩
  · exact World.cell?_setCell_same _ _ _ hq
  · rw [HW.out]
    exact Red.set2 w p q 0 _ _

/-- The number that so many bytes are, the greatest first. -/
def numOf (l : List UInt8) : Nat := l.foldl (fun a x => a * 256 + x.toNat) 0
theorem numOf_snoc (l : List UInt8) (x : UInt8) : numOf (l ++ [x]) = numOf l * 256 + x.toNat := by simp [numOf]
theorem numOf_step (l : List UInt8) (i : Nat) (hi : i < l.length) : numOf (l.take (i + 1)) = numOf (l.take i) * 256 + (l.getD i 0).toNat := by
  rw [List.take_add_one, List.getElem?_eq_getElem hi]
  simp only [Option.toList_some, numOf_snoc]
  simp [List.getD, hi]
theorem numOf_lt (l : List UInt8) : ∀ n, l.length ≤ n → numOf l < 256 ^ n := by
  intro n
  induction n generalizing l with
  | zero => intro h; have : l = [] := by simpa using h
            subst this; simp [numOf]
  | succ n ih =>
    intro h
    rcases List.eq_nil_or_concat l with rfl | ⟨m, x, rfl⟩
    · simp only [numOf, List.foldl_nil]; exact Nat.pow_pos (by decide)
    · simp at h
      have := ih m (by omega)
      have := x.toNat_lt
      simp only [List.concat_eq_append, numOf_snoc, Nat.pow_succ]
      omega

/-- What readLengthPrefixed leaves where there is enough: the String behind, the part in q. -/
def LpOk (p b q n : Nat) (l l' : List UInt8) (w w' : World) (e : Ending) : Prop :=
  e = .returned (.bool true) ∧ Str w' p b (l.drop n) ∧ Str w' q b l' ∧ Red w w' p q

set_option maxHeartbeats 2000000 in
set_option maxRecDepth 100000 in
theorem lp_ok (p b q k m : Nat) (l : List UInt8) (w : World) (h : Str w p b l) (hk : k ≤ 2) (hk0 : 1 ≤ k) (hlen : k + m ≤ l.length) (hl : l.length < 2147483648) (hm : numOf (l.take k) = m) (old : Value) (hq : Blk w q 152 #[old]) (hqp : q ≠ p) (hqb : q ≠ b) :
    Calls Tryd.prog 114 #[.pointer (some ⟨p, 0, none⟩), .int .i64 k, .pointer (some ⟨q, 0, none⟩)] w fun e w' => LpOk p b q (k + m) l ((l.drop k).take m) w w' e := by
  have hnil : ∀ (wx : World) (a : Addr) (n c : Nat), (binOp .eql 68 (.slice (some a) n c) (.slice none 0 0)).run Tryd.prog wx = .ok (.bool false) wx := fun wx a n c => Lib.run_eql_slice_nil wx 68 5 (some a) n c 0 0 Tryd.underlying68
  have HR := Lib.hid (read_ok p b k l w h (by omega) hl)
  have HQ := Lib.hid hq
  have HM := Lib.hid hm
  have HL := Lib.hid hlen
  have hlt : (l.take k).length = k := by simp; omega
  have HLT := Lib.hid hlt
  have hki : (k : Int) ≤ 2 := by omega
  clear h hq hm hlen hlt
  go_enter Tryd.func114, Tryd.ntmps114
  go_wp2_with (go_at_call 113; refine HR.out.mono ?_; rintro e w1 ⟨off, c, off', c', rfl, hc, hB, hw1, hS⟩; have HW := Lib.hid hw1; have HB := Lib.hid hB; clear hw1 hB)
  have hB1 : Bytes w1 b off (l.take k) := by
    obtain ⟨_, _, _, _, _, hpbs⟩ := hS
    rw [HW.out]
    exact HB.out.setCell (p := ⟨p, 0, none⟩) (fun e => hpbs e.symm) _
  have hlk : k ≤ l.length := by have := HL.out; omega
  have cells : ∀ i, i < k → w1.cell? ⟨b, off + i, none⟩ = some (.int .u8 ((l.getD i 0).toNat : Int)) := by
    intro i hi
    have := hB1.getD i (by rw [HLT.out]; exact hi)
    rw [this]
    simp [List.getD, List.getElem?_take, hi]
  have HC := Lib.hid cells
  clear cells hB1
  go_loopw [8, 10, 19] (fun nv _ iv wr => ∃ i x : Nat, i ≤ k ∧ nv = .int .u32 (x : Nat) ∧ x = numOf (l.take i) ∧ iv = .int .i64 (i : Nat) ∧ wr = w1)
    (fun _ _ iv _ => k - (intOf iv).toNat)
  case atStart => exact ⟨0, 0, by omega, rfl, by simp [numOf], rfl, rfl⟩
  case round =>
    obtain ⟨i, x, hi, rfl, hx, rfl, rfl⟩ := hrel
    have hxb : (x : Int) < 65536 := by
      have := numOf_lt (l.take i) 2 (by simp; omega)
      rw [hx]; omega
    have HX := Lib.hid hx
    clear hx
    by_cases hlt : i < k
    · have c0 := HC.out i hlt
      have hi' : (i : Int) < k := by omega
      have hb0 : (l.getD i 0).toNat < 256 := UInt8.toNat_lt _
      have HS := Lib.hid (numOf_step l i (by omega))
      generalize (l.getD i 0).toNat = y at *
      have hj := bits_join .u32 32 (by decide) wraps_u32 8 ((x : Int) * 256) y (by omega) (by omega) (by omega) (by omega) (by omega) (by omega)
      go_wp2_with fail
      go_roundw
      case rel =>
        exact ⟨i + 1, x * 256 + y, by omega, by simp, by rw [HS.out, ← HX.out], by simp, trivial⟩
      case measure => simp [intOf]; omega
    · obtain rfl : i = k := by omega
      have hxm : x = m := HX.out.trans HM.out
      subst hxm
      have hdl : (l.drop i).length = l.length - i := by simp
      have hxl : x ≤ (l.drop i).length := by have := HL.out; omega
      have HR2 := Lib.hid (read_ok p b x (l.drop i) wr hS hxl (by omega))
      have HD := Lib.hid (And.intro hdl hxl)
      clear hdl hxl hki
      have HS1 := Lib.hid hS
      clear hS
      go_wp2_with fail
      refine HR2.out.mono ?_
      rintro e w2 ⟨off2, c2, off2', c2', rfl, hc2, hB2, hw2, hS2⟩
      have hX1 : Blk wr q 152 #[old] := by rw [HW.out]; exact HQ.out.far (p := ⟨p, 0, none⟩) hqp _
      have hX2 : Blk w2 q 152 #[old] := by rw [hw2]; exact hX1.far (p := ⟨p, 0, none⟩) hqp _
      have HW2 := Lib.hid hw2
      have HB2 := Lib.hid hB2
      clear hw2 hB2
      have q0 := hX2.at 0 old rfl
      have qf := hX2.frozen 0
      go_wp2_with fail
      go_ret
      have hxl := HD.out.2
      have hB2' : Bytes w2 b off2 ((l.drop i).take x) := by
        obtain ⟨_, _, _, _, _, hpbs⟩ := hS2
        rw [HW2.out]
        exact HB2.out.setCell (p := ⟨p, 0, none⟩) (fun e => hpbs e.symm) _
      have hlx : ((l.drop i).take x).length = x := by rw [List.length_take]; omega
      refine ⟨rfl, ?_, ⟨off2, c2, ?_, by rw [hlx]; exact hc2, hB2'.setCell (p := ⟨q, 0, none⟩) (fun e => hqb e.symm) _, hqb⟩, ?_⟩
      · have := hS2.far (a := ⟨q, 0, none⟩) (fun e => hqp e.symm) (fun e => hqb e.symm) (.slice (some ⟨b, off2, none⟩) x c2)
        rw [List.drop_drop] at this
        exact this
      · rw [hlx]
        exact hX2.set_ 0 _
      · rw [HW2.out, HW.out]
        exact ⟨rfl, rfl, rfl, by simp, fun k _ h1 h2 => (Below.heap_setCell _ ⟨q, 0, none⟩ _ k h2).trans ((Below.heap_setCell _ ⟨p, 0, none⟩ _ k h1).trans (Below.heap_setCell w ⟨p, 0, none⟩ _ k h1))⟩

set_option maxHeartbeats 1000000 in
set_option maxRecDepth 100000 in
/-- ReadUint16 where there is not enough. -/
theorem u16_no (p b q : Nat) (l : List UInt8) (w : World) (h : Str w p b l) (hk : l.length < 2) :
    Calls Tryd.prog 84 #[.pointer (some ⟨p, 0, none⟩), .pointer (some ⟨q, 0, none⟩)] w fun e w' => e = .returned (.bool false) ∧ w = w' := by
  have HR := Lib.hid (read_no p b 2 l w h hk (by omega))
  have hnil : ∀ (wx : World), (binOp .eql 68 (.slice none 0 0) (.slice none 0 0)).run Tryd.prog wx = .ok (.bool true) wx := fun wx => Lib.run_eql_slice_nil wx 68 5 none 0 0 0 0 Tryd.underlying68
  clear h hk
  go_enter Tryd.func84, Tryd.ntmps84
  go_wp2_with (go_at_call 113; refine HR.out.mono ?_; rintro e w1 ⟨rfl, rfl⟩)
  go_ret
  exact ⟨rfl, rfl⟩

set_option maxHeartbeats 1000000 in
set_option maxRecDepth 100000 in
/-- readLengthPrefixed where the length's own bytes are not there. -/
theorem lp_short (p b q k : Nat) (l : List UInt8) (w : World) (h : Str w p b l) (hk : l.length < k) (hk2 : k ≤ 2) :
    Calls Tryd.prog 114 #[.pointer (some ⟨p, 0, none⟩), .int .i64 k, .pointer (some ⟨q, 0, none⟩)] w fun e w' => e = .returned (.bool false) ∧ w = w' := by
  have HR := Lib.hid (read_no p b k l w h hk (by omega))
  have hnil : ∀ (wx : World), (binOp .eql 68 (.slice none 0 0) (.slice none 0 0)).run Tryd.prog wx = .ok (.bool true) wx := fun wx => Lib.run_eql_slice_nil wx 68 5 none 0 0 0 0 Tryd.underlying68
  clear h hk
  go_enter Tryd.func114, Tryd.ntmps114
  go_wp2_with (go_at_call 113; refine HR.out.mono ?_; rintro e w1 ⟨rfl, rfl⟩)
  go_ret
  exact ⟨rfl, rfl⟩

set_option maxHeartbeats 2000000 in
set_option maxRecDepth 100000 in
/-- readLengthPrefixed where fewer bytes are there than the length says. -/
theorem lp_no (p b q k m : Nat) (l : List UInt8) (w : World) (h : Str w p b l) (hk : k ≤ 2) (hk0 : 1 ≤ k) (hkl : k ≤ l.length) (hlen : l.length < k + m) (hl : l.length < 2147483648) (hm : numOf (l.take k) = m) :
    Calls Tryd.prog 114 #[.pointer (some ⟨p, 0, none⟩), .int .i64 k, .pointer (some ⟨q, 0, none⟩)] w fun e w' => e = .returned (.bool false) ∧ w.grownBy w' (some p) := by
  have hnil : ∀ (wx : World) (a : Addr) (n c : Nat), (binOp .eql 68 (.slice (some a) n c) (.slice none 0 0)).run Tryd.prog wx = .ok (.bool false) wx := fun wx a n c => Lib.run_eql_slice_nil wx 68 5 (some a) n c 0 0 Tryd.underlying68
  have hnil2 : ∀ (wx : World), (binOp .eql 68 (.slice none 0 0) (.slice none 0 0)).run Tryd.prog wx = .ok (.bool true) wx := fun wx => Lib.run_eql_slice_nil wx 68 5 none 0 0 0 0 Tryd.underlying68
  have HR := Lib.hid (read_ok p b k l w h hkl hl)
  have HM := Lib.hid hm
  have HL := Lib.hid hlen
  have hlt : (l.take k).length = k := by simp; omega
  have HLT := Lib.hid hlt
  have hki : (k : Int) ≤ 2 := by omega
  clear h hm hlen hlt
  go_enter Tryd.func114, Tryd.ntmps114
  go_wp2_with (go_at_call 113; refine HR.out.mono ?_; rintro e w1 ⟨off, c, off', c', rfl, hc, hB, hw1, hS⟩; have HW := Lib.hid hw1; have HB := Lib.hid hB; clear hw1 hB)
  have hB1 : Bytes w1 b off (l.take k) := by
    obtain ⟨_, _, _, _, _, hpbs⟩ := hS
    rw [HW.out]
    exact HB.out.setCell (p := ⟨p, 0, none⟩) (fun e => hpbs e.symm) _
  have cells : ∀ i, i < k → w1.cell? ⟨b, off + i, none⟩ = some (.int .u8 ((l.getD i 0).toNat : Int)) := by
    intro i hi
    have := hB1.getD i (by rw [HLT.out]; exact hi)
    rw [this]
    simp [List.getD, List.getElem?_take, hi]
  have HC := Lib.hid cells
  clear cells hB1
  go_loopw [8, 10, 19] (fun nv _ iv wr => ∃ i x : Nat, i ≤ k ∧ nv = .int .u32 (x : Nat) ∧ x = numOf (l.take i) ∧ iv = .int .i64 (i : Nat) ∧ wr = w1)
    (fun _ _ iv _ => k - (intOf iv).toNat)
  case atStart => exact ⟨0, 0, by omega, rfl, by simp [numOf], rfl, rfl⟩
  case round =>
    obtain ⟨i, x, hi, rfl, hx, rfl, rfl⟩ := hrel
    have hxb : (x : Int) < 65536 := by
      have := numOf_lt (l.take i) 2 (by simp; omega)
      rw [hx]; omega
    have HX := Lib.hid hx
    clear hx
    by_cases hlt : i < k
    · have c0 := HC.out i hlt
      have hi' : (i : Int) < k := by omega
      have hb0 : (l.getD i 0).toNat < 256 := UInt8.toNat_lt _
      have HS := Lib.hid (numOf_step l i (by omega))
      generalize (l.getD i 0).toNat = y at *
      have hj := bits_join .u32 32 (by decide) wraps_u32 8 ((x : Int) * 256) y (by omega) (by omega) (by omega) (by omega) (by omega) (by omega)
      go_wp2_with fail
      go_roundw
      case rel =>
        exact ⟨i + 1, x * 256 + y, by omega, by simp, by rw [HS.out, ← HX.out], by simp, trivial⟩
      case measure => simp [intOf]; omega
    · obtain rfl : i = k := by omega
      have hxm : x = m := HX.out.trans HM.out
      subst hxm
      have hdl : (l.drop i).length = l.length - i := by simp
      have hxl : (l.drop i).length < x := by have := HL.out; omega
      have HR2 := Lib.hid (read_no p b x (l.drop i) wr hS hxl (by omega))
      clear hdl hxl hki hS
      go_wp2_with fail
      refine HR2.out.mono ?_
      rintro e w2 ⟨rfl, rfl⟩
      go_wp2_with fail
      go_ret
      refine ⟨rfl, ?_⟩
      rw [HW.out]
      exact grown_setCell (grown_refl w (some p)) 0 _

set_option maxHeartbeats 1000000 in
set_option maxRecDepth 100000 in
theorem lp16_ok (p b q m : Nat) (l : List UInt8) (w : World) (h : Str w p b l) (hlen : 2 + m ≤ l.length) (hl : l.length < 2147483648) (hm : numOf (l.take 2) = m) (old : Value) (hq : Blk w q 152 #[old]) (hqp : q ≠ p) (hqb : q ≠ b) :
    Calls Tryd.prog 86 #[.pointer (some ⟨p, 0, none⟩), .pointer (some ⟨q, 0, none⟩)] w fun e w' => LpOk p b q (2 + m) l ((l.drop 2).take m) w w' e := by
  have HR := Lib.hid (lp_ok p b q 2 m l w h (by omega) (by omega) hlen hl hm old hq hqp hqb)
  clear h hlen hl hm hq hqp hqb
  go_enter Tryd.func86, Tryd.ntmps86
  go_wp2_with (go_at_call 114; refine HR.out.mono ?_; rintro e w1 ⟨rfl, hr⟩)
  go_ret
  exact ⟨rfl, hr⟩

set_option maxHeartbeats 1000000 in
set_option maxRecDepth 100000 in
/-- ReadUint16LengthPrefixed at a String that is cut. -/
theorem lp16_cut (p b q : Nat) (l : List UInt8) (w : World) (h : Str w p b l) (hl : l.length < 2147483648) (hm : l.length < 2 ∨ l.length < 2 + numOf (l.take 2)) :
    Calls Tryd.prog 86 #[.pointer (some ⟨p, 0, none⟩), .pointer (some ⟨q, 0, none⟩)] w fun e w' => e = .returned (.bool false) ∧ w.grownBy w' (some p) := by
  have key : Calls Tryd.prog 114 #[.pointer (some ⟨p, 0, none⟩), .int .i64 (2 : Nat), .pointer (some ⟨q, 0, none⟩)] w fun e w' => e = .returned (.bool false) ∧ w.grownBy w' (some p) := by
    by_cases h2 : l.length < 2
    · refine (lp_short p b q 2 l w h h2 (by omega)).mono ?_
      rintro e w' ⟨rfl, rfl⟩
      exact ⟨rfl, grown_refl w _⟩
    · exact lp_no p b q 2 _ l w h (by omega) (by omega) (by omega) (by omega) hl rfl
  have HR := Lib.hid key
  clear key h hl hm
  go_enter Tryd.func86, Tryd.ntmps86
  go_wp2_with (go_at_call 114; refine HR.out.mono ?_; rintro e w1 ⟨rfl, hr⟩)
  go_ret
  exact ⟨rfl, hr⟩

set_option maxHeartbeats 1000000 in
set_option maxRecDepth 100000 in
theorem lp8_ok (p b q m : Nat) (l : List UInt8) (w : World) (h : Str w p b l) (hlen : 1 + m ≤ l.length) (hl : l.length < 2147483648) (hm : numOf (l.take 1) = m) (old : Value) (hq : Blk w q 152 #[old]) (hqp : q ≠ p) (hqb : q ≠ b) :
    Calls Tryd.prog 90 #[.pointer (some ⟨p, 0, none⟩), .pointer (some ⟨q, 0, none⟩)] w fun e w' => LpOk p b q (1 + m) l ((l.drop 1).take m) w w' e := by
  have HR := Lib.hid (lp_ok p b q 1 m l w h (by omega) (by omega) hlen hl hm old hq hqp hqb)
  clear h hlen hl hm hq hqp hqb
  go_enter Tryd.func90, Tryd.ntmps90
  go_wp2_with (go_at_call 114; refine HR.out.mono ?_; rintro e w1 ⟨rfl, hr⟩)
  go_ret
  exact ⟨rfl, hr⟩

/-- What CopyBytes leaves: the row filled with the String's first bytes. -/
def CopyOk (p b g cap base m : Nat) (l : List UInt8) (w w' : World) (e : Ending) : Prop :=
  e = .returned (.bool true) ∧ Own w' base 5 g cap (l.take m) ∧ Str w' p b (l.drop m) ∧ Red w w' p g

set_option maxHeartbeats 1000000 in
set_option maxRecDepth 100000 in
theorem copy_ok (p b g cap base m : Nat) (l : List UInt8) (w : World) (h : Str w p b l) (hm : m ≤ l.length) (hl : l.length < 2147483648) (z : List UInt8) (hz : z.length = m) (ho : Own w base 5 g cap z) (hgp : g ≠ p) (hgb : g ≠ b) (hbl : b < w.heap.size) :
    Calls Tryd.prog 91 #[.pointer (some ⟨p, 0, none⟩), .slice (some ⟨g, 0, none⟩) m cap] w fun e w' => CopyOk p b g cap base m l w w' e := by
  have hnil : ∀ (wx : World) (a : Addr) (n c : Nat), (binOp .eql 68 (.slice (some a) n c) (.slice none 0 0)).run Tryd.prog wx = .ok (.bool false) wx := fun wx a n c => Lib.run_eql_slice_nil wx 68 5 (some a) n c 0 0 Tryd.underlying68
  have HR := Lib.hid (read_ok p b m l w h hm hl)
  have hpl := h.lt
  have hlm : (l.take m).length = m := by rw [List.length_take]; omega
  have HM := Lib.hid hlm
  have HZ := Lib.hid hz
  have HO := Lib.hid ho
  clear h hlm hz ho
  go_enter Tryd.func91, Tryd.ntmps91
  go_upto_region 5 with (go_at_call 113; refine HR.out.mono ?_; rintro e w1 ⟨off, c, off', c', rfl, hc, hB, hw1, hS⟩; have HW := Lib.hid hw1; have HB := Lib.hid hB; clear hw1 hB)
  iterate 7 go_step
  refine wpList_copy_bytes w1 rfl (.tmp 14) (.tmp 15) 68 68 rfl base 5 Tryd.underlying68 infoU8 (some ⟨g, 0, none⟩) (some ⟨b, off, none⟩) m cap m c rfl rfl g cap 0 z (l.take m) ?_ (by rw [HM.out]; simp) ?_ (by rw [HM.out, HZ.out]; simp) ?_
  · rw [HW.out]; exact HO.out.kept (grown_setCell (grown_refl w (some p)) 0 _) (by simpa using hgp)
  · intro _
    refine ⟨rfl, b, off, rfl, ?_⟩
    rw [HW.out]
    obtain ⟨_, _, _, _, _, hpbs⟩ := hS
    exact HB.out.setCell (p := ⟨p, 0, none⟩) (fun e => hpbs e.symm) _
  rw [HM.out]
  intro w2 hown2 hgr2
  go_wp2_with fail
  go_ret
  refine ⟨rfl, ?_, ?_, ?_⟩
  · have : (z.take 0 ++ ((l.take m) ++ z.drop (0 + m))) = l.take m := by
      rw [List.drop_of_length_le (by rw [HZ.out]; omega)]
      simp
    rw [this] at hown2
    exact hown2
  · obtain ⟨o3, c3, hX3, hc3, hB3, hp3⟩ := hS
    have hs1 : w1.heap.size = w.heap.size := by rw [HW.out]; simp
    exact ⟨o3, c3, hX3.grown hgr2 (by simp; exact fun e => hgp e.symm), hc3, hB3.grown hgr2 (by omega) (by simp; exact fun e => hgb e.symm), hp3⟩
  · have hw := HW.out
    subst hw
    exact ⟨hgr2.os, hgr2.tape, hgr2.output, by have := hgr2.size; simpa using this, fun k hk h1 h2 => (hgr2.block k (by simpa using hk) (fun e => h2 (by injection e))).trans (Below.heap_setCell w ⟨p, 0, none⟩ _ k h1)⟩
end Go.Proofs.YtgjlnkciemdklaaDoor
