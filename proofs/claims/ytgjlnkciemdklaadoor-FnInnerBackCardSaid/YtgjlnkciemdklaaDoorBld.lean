/-
  CONTRACTS OF cryptobyte.Builder: add, AddUint8, AddBytes, Bytes, for a Builder that may grow, without an error and without a child. Condition: the Builder is a block of its own and owns its row.
-/
import Derived.Test.YtgjlnkciemdklaaDoorBlk
import Derived.Test.YtgjlnkciemdklaaDoorMem
import Derived.Test.YtgjlnkciemdklaaDoorBig
import Derived.BigRegion
import Derived.Deep.Cut
import Derived.Deep.QuietTactic
import Derived.BigQuiet
namespace Go.Proofs.YtgjlnkciemdklaaDoor
open Go.RowKit
set_option linter.unusedVariables false
set_option linter.unusedSimpArgs false

/-- A row of bytes (nil too) that is the call's own. -/
def OwnV (w : World) (base : Nat) (v : Value) (l : List UInt8) : Prop := w.ownsRow base 5 1 v l.length (bvals l)
theorem OwnV.nil (w : World) (base : Nat) : OwnV w base (.slice none 0 0) [] := ⟨by simp [bvals], .inl ⟨rfl, rfl⟩⟩
theorem OwnV.below {w w' : World} {B base : Nat} {v : Value} {l : List UInt8} (h : OwnV w base v l) (hb : Below B w w') (hv : ∀ g, v.ownBlock = some g → g < B) : OwnV w' base v l := by
  obtain ⟨h1, h2⟩ := h
  refine ⟨h1, ?_⟩
  rcases h2 with h2 | ⟨g', cap', cur, hve, hb', hh, r⟩
  · exact Or.inl h2
  · exact Or.inr ⟨g', cap', cur, hve, hb', (hb.block g' (hv g' (by rw [hve]; rfl))).trans hh, r⟩
theorem OwnV.kept {w w' : World} {row : Option Nat} {base : Nat} {v : Value} {l : List UInt8} (h : OwnV w base v l) (hg : w.grownBy w' row) (hne : v.ownBlock = none ∨ v.ownBlock ≠ row) : OwnV w' base v l :=
  World.ownsRow.kept h hg hne
theorem OwnV.lt {w : World} {base : Nat} {v : Value} {l : List UInt8} (h : OwnV w base v l) (g : Nat) (hv : v.ownBlock = some g) : base ≤ g ∧ g < w.heap.size := World.ownsRow.lt h g hv
theorem OwnV.cons {w : World} {base : Nat} {v : Value} {l : List UInt8} (h : OwnV w base v l) (hl : 0 < l.length) : ∃ g cap, v = .slice (some ⟨g, 0, none⟩) l.length cap ∧ Own w base 5 g cap l := by
  rcases h.2 with ⟨_, h0⟩ | ⟨g, cap, cur, hv, _⟩
  · omega
  · exact ⟨g, cap, hv, by subst hv; exact h⟩
theorem OwnV.shape {w : World} {base : Nat} {v : Value} {l : List UInt8} (h : OwnV w base v l) : (v = .slice none 0 0 ∧ l.length = 0) ∨ ∃ g cap, v = .slice (some ⟨g, 0, none⟩) l.length cap := by
  rcases h.2 with h0 | ⟨g, cap, cur, hv, _⟩
  · exact Or.inl h0
  · exact Or.inr ⟨g, cap, hv⟩
theorem OwnV.one {w : World} {base : Nat} {v : Value} {l : List UInt8} (h : OwnV w base v l) : v.oneCell' = true := by
  rcases h.shape with ⟨rfl, _⟩ | ⟨g, cap, rfl⟩ <;> rfl

section
variable {P : Program} (w : World) {ops : Array Oper} {rest : List Oper} {o : Oper} {a : Act} {Q : Exit → Act → World → Prop}
/-- 'append(v, x...)' of bytes, v a row of the call's own or nil. -/
theorem wpList_append_v (hgd : Region.wanted o (yielded ops a.tmps) = true) (s x : Operand) (t : TypeId) (ho : o.op = .call { callee := .builtin .append, args := #[s, x], argTypes := #[t, t] })
    (base : Nat) (ht : P.underlying t = some (.slice 5)) (hinfo : (P.info? 5).map (fun i => (i.zero, i.size, i.bytes)) = some (some (.int .u8 0), 1, 1))
    (v : Value) (l : List UInt8) (hs : a.eval s = v) (hown : OwnV w base v l)
    (b off m c : Nat) (l' : List UInt8) (hx : a.eval x = .slice (some ⟨b, off, none⟩) m c) (hm : l'.length = m) (hB : Bytes w b off l')
    (hbound : l.length + m ≤ 140737488355328) (hbase : base ≤ w.heap.size)
    (h : ∀ v' w', OwnV w' base v' (l ++ l') → w.grownBy w' v.ownBlock → (v'.ownBlock = v.ownBlock ∨ v'.ownBlock = some w.heap.size) → wpList P ops Q rest (a.put o.dst v') w') :
    wpList P ops Q (o :: rest) a w := by
  subst hm
  obtain ⟨i0, hi, hz0, hz1, hz2⟩ := info_parts hinfo
  refine wpList_on hgd fun K hK => ?_
  obtain ⟨v', w', hr, hown', hgrow, hnil, hat⟩ := run_append_own_at (P := P) w base t o.type 5 i0 (.int .u8 0) 1 1 ht hi hz0 hz1 hz2 rfl (by decide) v l.length (bvals l) hown ⟨b, off, none⟩ l'.length c (bvals l') (by simp [bvals_length]) hB.news (bvals_oneCell _) (by unfold maxLen; omega) (by omega) hbase
  unfold Oper.wp execOp
  simp only [ho, resolve, invoke, builtin, Sem.run_bind, Sem.run_pure, Result.andThen_ok, List.map_toArray, List.map_cons, List.map_nil, hs, hx, hr]
  refine hK _ _ (h v' w' ?_ hgrow hat)
  unfold OwnV
  rw [bvals_append, List.length_append]
  exact hown'
end

/-- The cells of a Builder that may grow and has no child. -/
def bldC (v : Value) (o p : Int) (c : Value) : Array Value := #[.nilIface, v, .bool false, .pointer none, .int .i64 o, .int .i64 p, .bool false, c]
/-- A Builder in block g that has written l; its row is its own, from base on. -/
def Bld (w : World) (g base : Nat) (o p : Int) (c : Value) (l : List UInt8) : Prop := ∃ v, Blk w g 149 (bldC v o p c) ∧ OwnV w base v l ∧ v.ownBlock ≠ some g
theorem Bld.lt {w : World} {g base : Nat} {o p : Int} {c : Value} {l : List UInt8} (h : Bld w g base o p c l) : g < w.heap.size := by
  obtain ⟨v, h, _⟩ := h
  exact h.lt
theorem Bld.below {w w' : World} {B g base : Nat} {o p : Int} {c : Value} {l : List UInt8} (h : Bld w g base o p c l) (hb : Below B w w') (hB : w.heap.size ≤ B) : Bld w' g base o p c l := by
  obtain ⟨v, h1, h2, h3⟩ := h
  exact ⟨v, h1.below hb (by have := h1.lt; omega), h2.below hb (fun k hk => by have := (h2.lt k hk).2; omega), h3⟩

def AddOk (g base : Nat) (o p : Int) (c : Value) (l : List UInt8) (w w' : World) (e : Ending) : Prop :=
  e = .returned (.tuple #[]) ∧ Bld w' g base o p c l ∧ Below base w w'

set_option maxHeartbeats 4000000 in
set_option maxRecDepth 100000 in
theorem add_ok (g base : Nat) (o p : Int) (cc : Value) (l : List UInt8) (b off m c : Nat) (l' : List UInt8) (w : World) (h : Bld w g base o p cc l) (hg : base ≤ g) (hm : l'.length = m) (hB : Bytes w b off l') (hbig : l.length + m < 4294967296) :
    Calls Tryd.prog 112 #[.pointer (some ⟨g, 0, none⟩), .slice (some ⟨b, off, none⟩) m c] w fun e w' => AddOk g base o p cc (l ++ l') w w' e := by
  obtain ⟨v, hX, hV, hne⟩ := h
  have hgl := hX.lt
  have x0 := hX.at 0 .nilIface rfl
  have x1 := hX.at 1 v rfl
  have x2 := hX.at 2 (.bool false) rfl
  have x3 := hX.at 3 (.pointer none) rfl
  have HX := Lib.hid hX
  have HB := Lib.hid hB
  have HM := Lib.hid hm
  have HV := Lib.hid hV
  have HN := Lib.hid hne
  have HG := Lib.hid hg
  have hsh := hV.shape
  have HBig := Lib.hid hbig
  clear hX hB hm hV hne hg
  rcases hsh with ⟨rfl, h0⟩ | ⟨kk, cap, rfl⟩
  · have hl0 : l = [] := List.length_eq_zero_iff.1 h0
    subst hl0
    have hs0 : ((0 : Int) + m) < 4294967296 := by simp at hbig; omega
    have hs1 : ¬ ((0 : Int) + m < m) := by omega
    clear hbig h0
    go_enter Tryd.func112, Tryd.ntmps112
    go_upto_region 5 with fail
    go_quiet (fail)
    clear hs0 hs1
    have hXq : Blk (w.drewN nq) g 149 (bldC (.slice none 0 0) o p cc) := HX.out
    have hVq : OwnV (w.drewN nq) base (.slice none 0 0) [] := HV.out
    have hBq : Bytes (w.drewN nq) b off l' := HB.out
    have hbq : Below w.heap.size w (w.drewN nq) := below_drewN (Below.refl _ _) _
    have hglq : g < (w.drewN nq).heap.size := hgl
    have y1 := hXq.at 1 (.slice none 0 0) rfl
    have HXq := Lib.hid hXq
    have HBq := Lib.hid (And.intro hbq hBq)
    clear x0 x1 x2 x3 hXq hbq hBq
    generalize w.drewN nq = wq at *
    have fin : ∀ v' w1, OwnV w1 base v' ([] ++ l') → wq.grownBy w1 (Value.ownBlock (.slice none 0 0)) → (v'.ownBlock = Value.ownBlock (.slice none 0 0) ∨ v'.ownBlock = some wq.heap.size) → AddOk g base o p cc ([] ++ l') w (w1.setCell ⟨g, 1, none⟩ v') (.returned (.tuple #[])) ∧ w1.cell? ⟨g, 1, none⟩ = some (.slice none 0 0) ∧ w1.frozen? ⟨g, 1, none⟩ = false := by
      intro v' w1 hV1 hg1 hat
      have hX1 := HXq.out.grown hg1 (fun e => HN.out e.symm)
      have hX2 := hX1.set_ 1 v'
      have hne' : v'.ownBlock ≠ some g := by
        rcases hat with h | h
        · rw [h]; exact HN.out
        · rw [h]; intro e; injection e with e; omega
      have hb1 : Below base wq w1 := ⟨hg1.os, hg1.tape, hg1.output, hg1.size, fun k hk => hg1.block k (by have := HG.out; have := HBq.out.1.size; omega) (fun e => by have := hVq.lt k e.symm; omega)⟩
      have hb0 : Below base w wq := HBq.out.1.mono (by have := HG.out; omega)
      exact ⟨⟨rfl, ⟨v', hX2, hV1.kept (grown_setCell (grown_refl w1 (some g)) 1 v') (.inr hne'), hne'⟩, (hb0.trans hb1).setCell (p := ⟨g, 1, none⟩) HG.out _⟩, hX1.at 1 (.slice none 0 0) rfl, hX1.frozen 1⟩
    have FIN := Lib.hid fin
    clear fin
    go_wp2_with (refine wpList_append_v wq rfl (.tmp 58) (.tmp 59) 68 rfl base Tryd.underlying68 infoU8 (.slice none 0 0) [] rfl hVq b off m c l' rfl HM.out HBq.out.2 (by have := HBig.out; simp at this ⊢; omega) (by have := HG.out; omega) ?_; intro v' w1 hV1 hg1 hat; have hF := FIN.out v' w1 hV1 hg1 hat; have z1 := hF.2.1; have zf := hF.2.2; have HF := Lib.hid hF.1; have hsh1 := hV1.shape; clear hV1 hg1 hat hF; rcases hsh1 with ⟨rfl, hv0⟩ | ⟨k1, cap1, rfl⟩)
    all_goals
      go_end0
      first | exact HF.out | (have hf := HF.out; rw [List.length_append] at hf; exact hf)
  · have hs0 : ((l.length : Int) + m) < 4294967296 := by omega
    have hs1 : ¬ ((l.length : Int) + m < m) := by omega
    clear hbig
    go_enter Tryd.func112, Tryd.ntmps112
    go_upto_region 5 with fail
    go_quiet (fail)
    clear hs0 hs1
    have hXq : Blk (w.drewN nq) g 149 (bldC (.slice (some ⟨kk, 0, none⟩) l.length cap) o p cc) := HX.out
    have hVq : OwnV (w.drewN nq) base (.slice (some ⟨kk, 0, none⟩) l.length cap) l := HV.out
    have hBq : Bytes (w.drewN nq) b off l' := HB.out
    have hbq : Below w.heap.size w (w.drewN nq) := below_drewN (Below.refl _ _) _
    have hglq : g < (w.drewN nq).heap.size := hgl
    have y1 := hXq.at 1 (.slice (some ⟨kk, 0, none⟩) l.length cap) rfl
    have HXq := Lib.hid hXq
    have HBq := Lib.hid (And.intro hbq hBq)
    clear x0 x1 x2 x3 hXq hbq hBq
    generalize w.drewN nq = wq at *
    have fin : ∀ v' w1, OwnV w1 base v' (l ++ l') → wq.grownBy w1 (Value.ownBlock (.slice (some ⟨kk, 0, none⟩) l.length cap)) → (v'.ownBlock = Value.ownBlock (.slice (some ⟨kk, 0, none⟩) l.length cap) ∨ v'.ownBlock = some wq.heap.size) → AddOk g base o p cc (l ++ l') w (w1.setCell ⟨g, 1, none⟩ v') (.returned (.tuple #[])) ∧ w1.cell? ⟨g, 1, none⟩ = some (.slice (some ⟨kk, 0, none⟩) l.length cap) ∧ w1.frozen? ⟨g, 1, none⟩ = false := by
      intro v' w1 hV1 hg1 hat
      have hX1 := HXq.out.grown hg1 (fun e => HN.out e.symm)
      have hX2 := hX1.set_ 1 v'
      have hne' : v'.ownBlock ≠ some g := by
        rcases hat with h | h
        · rw [h]; exact HN.out
        · rw [h]; intro e; injection e with e; omega
      have hb1 : Below base wq w1 := ⟨hg1.os, hg1.tape, hg1.output, hg1.size, fun k hk => hg1.block k (by have := HG.out; have := HBq.out.1.size; omega) (fun e => by have := hVq.lt k e.symm; omega)⟩
      have hb0 : Below base w wq := HBq.out.1.mono (by have := HG.out; omega)
      exact ⟨⟨rfl, ⟨v', hX2, hV1.kept (grown_setCell (grown_refl w1 (some g)) 1 v') (.inr hne'), hne'⟩, (hb0.trans hb1).setCell (p := ⟨g, 1, none⟩) HG.out _⟩, hX1.at 1 (.slice (some ⟨kk, 0, none⟩) l.length cap) rfl, hX1.frozen 1⟩
    have FIN := Lib.hid fin
    clear fin
    go_wp2_with (refine wpList_append_v wq rfl (.tmp 58) (.tmp 59) 68 rfl base Tryd.underlying68 infoU8 (.slice (some ⟨kk, 0, none⟩) l.length cap) l rfl hVq b off m c l' rfl HM.out HBq.out.2 (by have := HBig.out; simp at this ⊢; omega) (by have := HG.out; omega) ?_; intro v' w1 hV1 hg1 hat; have hF := FIN.out v' w1 hV1 hg1 hat; have z1 := hF.2.1; have zf := hF.2.2; have HF := Lib.hid hF.1; have hsh1 := hV1.shape; clear hV1 hg1 hat hF; rcases hsh1 with ⟨rfl, hv0⟩ | ⟨k1, cap1, rfl⟩)
    all_goals
      go_end0
      first | exact HF.out | (have hf := HF.out; rw [List.length_append] at hf; exact hf)

set_option maxRecDepth 100000 in
theorem addbytes_ok (g base : Nat) (o p : Int) (cc : Value) (l : List UInt8) (b off m c : Nat) (l' : List UInt8) (w : World) (h : Bld w g base o p cc l) (hg : base ≤ g) (hm : l'.length = m) (hB : Bytes w b off l') (hbig : l.length + m < 4294967296) :
    Calls Tryd.prog 81 #[.pointer (some ⟨g, 0, none⟩), .slice (some ⟨b, off, none⟩) m c] w fun e w' => AddOk g base o p cc (l ++ l') w w' e := by
  have HA := Lib.hid (add_ok g base o p cc l b off m c l' w h hg hm hB hbig)
  clear h hB hbig hm
  go_enter Tryd.func81, Tryd.ntmps81
  go_wp2_with fail
  refine HA.out.mono ?_
  rintro e w1 ⟨rfl, h⟩
  go_wp2_with fail
  go_end0
  exact ⟨rfl, h⟩

theorem row_one (w : World) (x : UInt8) : Bytes (w.alloc (.cells #[.int .u8 (x.toNat : Int)] 5)) w.heap.size 0 [x] := by
  intro i hi
  have hi0 : i = 0 := by simp at hi; omega
  subst hi0
  exact (Blk.new w 5 #[.int .u8 (x.toNat : Int)]).at 0 _ rfl

set_option maxRecDepth 100000 in
theorem adduint8_ok (g base : Nat) (o p : Int) (cc : Value) (l : List UInt8) (x : UInt8) (w : World) (h : Bld w g base o p cc l) (hg : base ≤ g) (hbig : l.length + 1 < 4294967296) :
    Calls Tryd.prog 82 #[.pointer (some ⟨g, 0, none⟩), .int .u8 (x.toNat : Int)] w fun e w' => AddOk g base o p cc (l ++ [x]) w w' e := by
  have hgl := h.lt
  have HA := Lib.hid (fun c => add_ok g base o p cc l w.heap.size 0 1 c [x] (w.alloc (.cells #[.int .u8 (x.toNat : Int)] 5)) (h.below ((Below.refl _ _).alloc (Nat.le_refl _) _) (Nat.le_refl _)) hg rfl (row_one w x) hbig)
  have hb0 : Below base w (w.alloc (.cells #[.int .u8 (x.toNat : Int)] 5)) := (Below.refl _ _).alloc (by omega) _
  clear h hbig
  go_enter Tryd.func82, Tryd.ntmps82
  go_wp2_with fail
  refine (HA.out _).mono ?_
  rintro e w1 ⟨rfl, h, hb⟩
  go_wp2_with fail
  go_end0
  exact ⟨rfl, h, hb0.trans hb⟩

/-- What Bytes gives: the row, where something was written. -/
def BytesOk (base : Nat) (l : List UInt8) (w w' : World) (e : Ending) : Prop :=
  ∃ k cap, e = .returned (.tuple #[.slice (some ⟨k, 0, none⟩) l.length cap, .nilIface]) ∧ Bytes w' k 0 l ∧ base ≤ k ∧ k < w'.heap.size ∧ Below w.heap.size w w'
set_option maxHeartbeats 1000000 in
set_option maxRecDepth 100000 in
theorem bytes_ok (g base : Nat) (p : Int) (cc : Value) (l : List UInt8) (w : World) (h : Bld w g base 0 p cc l) (hl : 0 < l.length) (hbig : l.length < 4294967296) :
    Calls Tryd.prog 83 #[.pointer (some ⟨g, 0, none⟩)] w fun e w' => BytesOk base l w w' e := by
  obtain ⟨v, hX, hV, hne⟩ := h
  obtain ⟨k, cap, rfl, hO⟩ := hV.cons hl
  have x0 := hX.at 0 .nilIface rfl
  have x1 := hX.at 1 (.slice (some ⟨k, 0, none⟩) l.length cap) rfl
  have x4 := hX.at 4 (.int .i64 0) rfl
  have hlt := hO.base_le
  have hB := Lib.hid hO.bytes
  have hcap : l.length ≤ cap := by
    rcases hV.2 with ⟨h0, _⟩ | ⟨_, _, _, h0, _, _, h1, _⟩
    · cases h0
    · injection h0 with _ _ h0; subst h0; exact h1
  have hci : (l.length : Int) ≤ cap := by omega
  have hli : (0 : Int) ≤ l.length := by omega
  clear hX hV hO
  go_enter Tryd.func83, Tryd.ntmps83
  go_upto_region 3 with fail
  go_region
  go_wp2
  go_ret2
  exact ⟨k, _, rfl, hB.out, hlt.1, hlt.2, below_drewN (Below.refl _ _) _⟩
end Go.Proofs.YtgjlnkciemdklaaDoor
