/-
  LAWS OF MEMORY FOR THE WALKS OF THIS SEAT, over any program: a slice of bytes that reads as a list of bytes; the two conversions between strings and bytes; append, make and copy, each with what a walk needs behind it and no more. Plain lemmas; no condition.
-/
import Derived.Test.YtdnnhoggpakjbaaDoorBase
import Derived.Laws.IdiomStrings
import Derived.Maps.AppendAt
import Derived.Deep.AppendLies
import Derived.Laws.CopyOwn
namespace Go.Proofs.YtdnnhoggpakjbaaDoor
set_option linter.unusedSimpArgs false
set_option linter.unusedVariables false
open Go.RowKit

/-- The cells of a run of bytes that begins at ⟨b, off⟩. -/
def Bytes (w : World) (b off : Nat) (l : List UInt8) : Prop := ∀ i, (h : i < l.length) → w.cell? ⟨b, off + i, none⟩ = some (.int .u8 ((l[i]).toNat : Int))

theorem Bytes.below {B : Nat} {w w' : World} {b off : Nat} {l : List UInt8} (h : Bytes w b off l) (hb : Below B w w') (hB : b < B) : Bytes w' b off l :=
  fun i hi => (hb.cell (p := ⟨b, off + i, none⟩) hB).trans (h i hi)
theorem Bytes.drop {w : World} {b off : Nat} {l : List UInt8} (h : Bytes w b off l) (k : Nat) : Bytes w b (off + k) (l.drop k) := fun i hi => by
  have := h (k + i) (by simp at hi; omega)
  rw [Nat.add_assoc]
  simpa using this
theorem Bytes.take {w : World} {b off : Nat} {l : List UInt8} (h : Bytes w b off l) (k : Nat) : Bytes w b off (l.take k) := fun i hi => by
  have := h i (by simp at hi; omega)
  simpa using this
theorem Bytes.getD {w : World} {b off : Nat} {l : List UInt8} (h : Bytes w b off l) (i : Nat) (hi : i < l.length) : w.cell? ⟨b, off + i, none⟩ = some (.int .u8 ((l.getD i 0).toNat : Int)) := by
  rw [h i hi]
  simp [List.getD, hi]
theorem Bytes.lt {w : World} {b off : Nat} {l : List UInt8} (h : Bytes w b off l) (hl : 0 < l.length) : b < w.heap.size := by
  simpa using World.block_lt_of_cell? _ _ (h 0 hl)

theorem toList_size (s : ByteArray) : s.data.toList.length = s.size := by simp

theorem toList_data (s : ByteArray) : s.toList = s.data.toList := ByteArray.toList_eq s

theorem Bytes.setCell {w : World} {b off : Nat} {l : List UInt8} (h : Bytes w b off l) {p : Addr} (hp : b ≠ p.block) (u : Value) : Bytes (w.setCell p u) b off l :=
  fun i hi => (World.cell?_setCell_other w p ⟨b, off + i, none⟩ u (fun e => hp (by rw [e]))).trans (h i hi)
theorem Bytes.alloc {w : World} {b off : Nat} {l : List UInt8} (h : Bytes w b off l) (hb : b < w.heap.size) (o : Obj) : Bytes (w.alloc o) b off l :=
  fun i hi => (World.cell?_alloc_lt w o ⟨b, off + i, none⟩ hb).trans (h i hi)
theorem Bytes.drew {w : World} {b off : Nat} {l : List UInt8} (h : Bytes w b off l) : Bytes w.drew b off l := h
theorem Bytes.grown {w w' : World} {row : Option Nat} {b off : Nat} {l : List UInt8} (h : Bytes w b off l) (hg : w.grownBy w' row) (hb : b < w.heap.size) (hr : some b ≠ row) : Bytes w' b off l :=
  fun i hi => (World.cell?_of_block (hg.block b hb hr)).trans (h i hi)
theorem eta_bytes (s : ByteArray) : (⟨s.data.toList.toArray⟩ : ByteArray) = s := by
  obtain ⟨⟨l⟩⟩ := s
  rfl

/-- The values of bytes. -/
def bvals (l : List UInt8) : List Value := l.map fun b => .int .u8 (b.toNat : Int)
theorem bvals_length (l : List UInt8) : (bvals l).length = l.length := by simp [bvals]
theorem bvals_append (l m : List UInt8) : bvals (l ++ m) = bvals l ++ bvals m := by simp [bvals]
theorem bvals_oneCell (l : List UInt8) : ∀ u ∈ bvals l, u.oneCell' = true := by
  intro u hu
  simp only [bvals, List.mem_map] at hu
  obtain ⟨b, _, rfl⟩ := hu
  rfl
theorem Bytes.news {w : World} {b off : Nat} {l : List UInt8} (h : Bytes w b off l) : ∀ j u, (bvals l)[j]? = some u → w.cell? ((⟨b, off, none⟩ : Addr).add j) = some u := by
  intro j u hj
  have hl : j < l.length := by
    have := (List.getElem?_eq_some_iff.1 hj).1
    simpa [bvals] using this
  rw [add_plain, h j hl]
  simp [bvals, List.getElem?_eq_getElem hl] at hj
  rw [hj]
/-- A row of the call's own that holds bytes is read. -/
theorem bytes_of_own {w : World} {base : Nat} {e : TypeId} {g cap : Nat} {l : List UInt8} (h : w.ownsRow base e 1 (.slice (some ⟨g, 0, none⟩) l.length cap) l.length (bvals l)) : Bytes w g 0 l := by
  intro i hi
  have := h.cells (g := g) rfl i (.int .u8 ((l[i]).toNat : Int)) (by simp [bvals, List.getElem?_eq_getElem hi])
  rw [add_plain] at this
  exact this

section
variable {P : Program} (w : World) {ops : Array Oper} {rest : List Oper} {o : Oper} {a : Act} {Q : Exit → Act → World → Prop}

/-- A struct literal, by a closed fact on its value. -/
theorem wpList_build (hgd : Region.wanted o (yielded ops a.tmps) = true) (t : TypeId) (parts : Array (Nat × Operand)) (ho : o.op = .build t parts) (pv : Array (Nat × Value)) (hp : (parts.map fun p => (p.1, a.eval p.2)) = pv)
    (V : Value) (hrun : (Instr.build t pv).run P w = .ok V w) (h : wpList P ops Q rest (a.put o.dst V) w) : wpList P ops Q (o :: rest) a w := by
  refine wpList_on hgd fun K hK => ?_
  unfold Oper.wp
  simp only [execOp, ho, Sem.run_bind, Sem.run_pure, hp, hrun, Result.andThen_ok, Oper.upon_value]
  exact hK _ _ h

/-- '[]byte(s)'. -/
theorem wpList_to_bytes (hgd : Region.wanted o (yielded ops a.tmps) = true) (x : Operand) (src dst e : TypeId) (ho : o.op = .convert src dst x) (hs : P.underlying src = some .string) (hd : P.underlying dst = some (.slice e)) (he : P.underlying e = some (.int .u8))
    (s : ByteArray) (hx : a.eval x = .string s) (hm : s.size ≤ maxLen)
    (h : ∀ c w', s.size ≤ c → c ≤ maxLen → Below w.heap.size w w' → w.heap.size < w'.heap.size → Bytes w' w.heap.size 0 s.data.toList → wpList P ops Q rest (a.put o.dst (.slice (some ⟨w.heap.size, 0, none⟩) s.size c)) w') :
    wpList P ops Q (o :: rest) a w := by
  refine wpList_on hgd fun K hK => ?_
  have hrun := run_bytes_of_string (P := P) w src dst e s hs hd he
  unfold Oper.wp
  simp only [execOp, ho, Sem.run_bind, Sem.run_pure, hx, hrun, Result.andThen_ok, Oper.upon_value]
  refine hK _ _ (h _ _ (grownCap_ge w s.size 0 e) (grownCap_le_maxLen w s.size 0 e hm) ?_ (by simp) ?_)
  · exact (Below.drew (Below.refl _ _)).alloc (Nat.le_refl _) _
  · intro i hi
    have hb := bytesRow_at s (grownCap w s.size 0 e) i (by simpa using hi)
    have hc := World.cell?_alloc_mark w.drew (bytesRow s (grownCap w s.size 0 e)) e ((bytesRow s (grownCap w s.size 0 e)).size, (bytesRow s (grownCap w s.size 0 e)).size + 1) i
    simp only [Nat.zero_add]
    exact hc.trans (by rw [hb]; simp)

/-- 'string(b)'. -/
theorem wpList_to_string (hgd : Region.wanted o (yielded ops a.tmps) = true) (x : Operand) (src dst e : TypeId) (ho : o.op = .convert src dst x) (hs : P.underlying src = some (.slice e)) (he : P.underlying e = some (.int .u8)) (hd : P.underlying dst = some .string)
    (b off n c : Nat) (l : List UInt8) (hx : a.eval x = .slice (some ⟨b, off, none⟩) n c) (hn : l.length = n) (hb : Bytes w b off l)
    (h : wpList P ops Q rest (a.put o.dst (.string ⟨l.toArray⟩)) w) :
    wpList P ops Q (o :: rest) a w := by
  subst hn
  refine wpList_on hgd fun K hK => ?_
  have hrun := run_convert_bytes_back (P := P) w src dst e ⟨b, off, none⟩ c l hs he hd (fun j hj => by rw [add_plain]; exact hb j hj)
  unfold Oper.wp
  simp only [execOp, ho, Sem.run_bind, Sem.run_pure, hx, hrun, Result.andThen_ok, Oper.upon_value]
  exact hK _ _ h

/-- A row of bytes that the call owns, at the head of block g. -/
def Own (w : World) (base : Nat) (e : TypeId) (g cap : Nat) (l : List UInt8) : Prop := w.ownsRow base e 1 (.slice (some ⟨g, 0, none⟩) l.length cap) l.length (bvals l)

/-- 'append(v, x...)' of bytes, v a row of the call's own (not nil). -/
theorem wpList_append_bytes (hgd : Region.wanted o (yielded ops a.tmps) = true) (s x : Operand) (t : TypeId) (ho : o.op = .call { callee := .builtin .append, args := #[s, x], argTypes := #[t, t] })
    (base : Nat) (e : TypeId) (ht : P.underlying t = some (.slice e)) (hinfo : (P.info? e).map (fun i => (i.zero, i.size, i.bytes)) = some (some (.int .u8 0), 1, 1))
    (g cap n : Nat) (l : List UInt8) (hs : a.eval s = .slice (some ⟨g, 0, none⟩) n cap) (hn : l.length = n) (hown : Own w base e g cap l)
    (b off m c : Nat) (l' : List UInt8) (hx : a.eval x = .slice (some ⟨b, off, none⟩) m c) (hm : l'.length = m) (hB : Bytes w b off l')
    (hbound : n + m ≤ 140737488355328) (hbase : base ≤ w.heap.size)
    (h : ∀ g' cap' w', Own w' base e g' cap' (l ++ l') → w.grownBy w' (some g) → (g' = g ∨ g' = w.heap.size) → wpList P ops Q rest (a.put o.dst (.slice (some ⟨g', 0, none⟩) (n + m) cap')) w') :
    wpList P ops Q (o :: rest) a w := by
  subst hn hm
  obtain ⟨i0, hi, hz0, hz1, hz2⟩ := info_parts hinfo
  refine wpList_on hgd fun K hK => ?_
  obtain ⟨v', w', hr, hown', hgrow, hnil, hat⟩ := run_append_own_at (P := P) w base t o.type e i0 (.int .u8 0) 1 1 ht hi hz0 hz1 hz2 rfl (by decide) _ l.length (bvals l) hown ⟨b, off, none⟩ l'.length c (bvals l') (by simp [bvals_length]) hB.news (bvals_oneCell _) (by unfold maxLen; omega) (by omega) hbase
  unfold Oper.wp execOp
  simp only [ho, resolve, invoke, builtin, Sem.run_bind, Sem.run_pure, Result.andThen_ok, List.map_toArray, List.map_cons, List.map_nil, hs, hx, hr]
  rcases hown'.2 with ⟨h0, _⟩ | ⟨g', cap', cur, hv, _⟩
  · rw [hnil] at h0
    cases h0.1
  · subst hv
    refine hK _ _ (h g' cap' w' ?_ hgrow ?_)
    · unfold Own
      rw [bvals_append, List.length_append]
      exact hown'
    · rcases hat with h1 | h1
      · left; simpa [Value.ownBlock] using h1
      · right; simpa [Value.ownBlock] using h1
end
section
variable {P : Program} (w : World) {ops : Array Oper} {rest : List Oper} {o : Oper} {a : Act} {Q : Exit → Act → World → Prop}
/-- 'make([]byte, n)'. -/
theorem wpList_make_bytes (hgd : Region.wanted o (yielded ops a.tmps) = true) (l c : Operand) (t : TypeId) (hop : o.op = .makeSlice t l c)
    (base : Nat) (e : TypeId) (ht : P.underlying t = some (.slice e)) (hinfo : (P.info? e).map (fun i => (i.zero, i.size, i.bytes)) = some (some (.int .u8 0), 1, 1))
    (kl kc : IntKind) (L C : Int) (n : Nat) (hl : a.eval l = .int kl L) (hc : a.eval c = .int kc C) (hL : L = (n : Int)) (hC : C = (n : Int)) (hn : n ≤ 140737488355328) (hbase : base ≤ w.heap.size)
    (h : ∀ w', Own w' base e w.heap.size n (List.replicate n 0) → Below w.heap.size w w' → w.heap.size < w'.heap.size → wpList P ops Q rest (a.put o.dst (.slice (some ⟨w.heap.size, 0, none⟩) n n)) w') :
    wpList P ops Q (o :: rest) a w := by
  subst hL
  subst hC
  obtain ⟨i0, hi, hz0, hz1, hz2⟩ := info_parts hinfo
  refine wpList_on hgd fun K hK => ?_
  obtain ⟨w', hrun, r1, r2⟩ := run_make_full (P := P) w base t e i0 (.int .u8 0) 1 ht hi hz0 hz1 kl kc n (by rw [hz2]; omega) (by unfold maxLen; omega) hbase
  unfold Oper.wp
  simp only [execOp, hop, hl, hc, Sem.run_bind, Sem.run_pure, hrun, Result.andThen_ok, Oper.upon_value]
  have hown : Own w' base e w.heap.size n (List.replicate n 0) := by
    unfold Own
    have e1 : (madeCells (Value.cells (.int .u8 0)) (n * 1)).toList = bvals (List.replicate n 0) := by
      rw [Nat.mul_one]
      show (madeCells #[.int .u8 0] n).toList = _
      rw [toList_madeCells_one]
      simp [bvals]
    rw [e1] at r1
    rw [List.length_replicate]
    exact r1
  exact hK _ _ (h w' hown ⟨r2.os, r2.tape, r2.output, r2.size, fun k hk => r2.block k hk (fun e => by cases e)⟩ (World.ownsRow.lt hown _ rfl).2)
end
theorem Own.stored {w : World} {base : Nat} {e : TypeId} {g cap : Nat} {l : List UInt8} (h : Own w base e g cap l) (j : Nat) (x : UInt8) : Own (w.setCell ⟨g, j, none⟩ (.int .u8 (x.toNat : Int))) base e g cap (l.set j x) := by
  have := (World.ownsRow.stored h j (.int .u8 (x.toNat : Int))).1
  unfold Own
  rw [List.length_set]
  have e1 : bvals (l.set j x) = (bvals l).set j (.int .u8 (x.toNat : Int)) := by simp [bvals, List.map_set]
  rw [e1]
  exact this
theorem Own.frozen {w : World} {base : Nat} {e : TypeId} {g cap : Nat} {l : List UInt8} (h : Own w base e g cap l) (j : Nat) : w.frozen? ⟨g, j, none⟩ = false := World.ownsRow.frozenAt h j
theorem Own.at {w : World} {base : Nat} {e : TypeId} {g cap : Nat} {l : List UInt8} (h : Own w base e g cap l) (j : Nat) (x : UInt8) (hx : l[j]? = some x) : w.cell? ⟨g, j, none⟩ = some (.int .u8 (x.toNat : Int)) := by
  have hj : j < l.length := (List.getElem?_eq_some_iff.1 hx).1
  rw [World.ownsRow.cellAt h j (by omega)]
  simp [bvals, hx]
theorem Own.kept {w w' : World} {row : Option Nat} {base : Nat} {e : TypeId} {g cap : Nat} {l : List UInt8} (h : Own w base e g cap l) (hg : w.grownBy w' row) (hne : some g ≠ row) : Own w' base e g cap l :=
  World.ownsRow.kept h hg (.inr (by simpa [Value.ownBlock] using hne))
theorem Own.below {w w' : World} {B : Nat} {base : Nat} {e : TypeId} {g cap : Nat} {l : List UInt8} (h : Own w base e g cap l) (hb : Below B w w') (hg : g < B) : Own w' base e g cap l := by
  obtain ⟨h1, h2⟩ := h
  refine ⟨h1, ?_⟩
  rcases h2 with h2 | ⟨g', cap', cur, hv, hb', hh, r⟩
  · exact Or.inl h2
  · have : g' = g := by simp at hv; exact hv.1.symm
    subst this
    exact Or.inr ⟨g', cap', cur, hv, hb', (hb.block g' hg).trans hh, r⟩

/-- A literal row of no bytes. -/
theorem Own.empty (w : World) (base : Nat) (e : TypeId) (hb : base ≤ w.heap.size) : Own (w.alloc (.cells #[] e)) base e w.heap.size 0 [] :=
  World.ownsRow_lit w #[] 0 hb (by decide) rfl
theorem Own.bytes {w : World} {base : Nat} {e : TypeId} {g cap : Nat} {l : List UInt8} (h : Own w base e g cap l) : Bytes w g 0 l := bytes_of_own h
theorem Own.base_le {w : World} {base : Nat} {e : TypeId} {g cap : Nat} {l : List UInt8} (h : Own w base e g cap l) : base ≤ g ∧ g < w.heap.size := World.ownsRow.lt h g rfl
end Go.Proofs.YtdnnhoggpakjbaaDoor
