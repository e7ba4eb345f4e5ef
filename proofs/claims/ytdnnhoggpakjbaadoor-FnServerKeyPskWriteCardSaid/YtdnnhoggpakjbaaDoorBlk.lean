/-
  WHOLE BLOCKS OF MEMORY, over any program: what a block holds, kept over later steps; a variable made, boxed, stored into and read as a whole, at the operation; a result that lies in a block. Plain lemmas; no condition.
-/
import Derived.Test.YtdnnhoggpakjbaaDoorBase
import Derived.Laws.Tables
import Derived.Laws.Rows
import Derived.Laws.ResultCell
namespace Go.Proofs.YtdnnhoggpakjbaaDoor
set_option linter.unusedSimpArgs false
set_option linter.unusedVariables false
open Go.RowKit

/-- Block g holds just the cells cs of element type t, none of them frozen. -/
def Blk (w : World) (g : Nat) (t : TypeId) (cs : Array Value) : Prop := w.heap[g]? = some (.cells cs t (0, 0))

section
variable {w w' : World} {g : Nat} {t : TypeId} {cs : Array Value}
theorem Blk.lt (h : Blk w g t cs) : g < w.heap.size := by
  rcases Nat.lt_or_ge g w.heap.size with hlt | hge
  · exact hlt
  · unfold Blk at h; rw [Array.getElem?_eq_none hge] at h; cases h
theorem Blk.cell (h : Blk w g t cs) (i : Nat) : w.cell? ⟨g, i, none⟩ = cs[i]? := cell_of_row w g i cs t (0, 0) h
theorem Blk.at (h : Blk w g t cs) (i : Nat) (v : Value) (hv : cs[i]? = some v) : w.cell? ⟨g, i, none⟩ = some v := (h.cell i).trans hv
theorem Blk.frozen (h : Blk w g t cs) (i : Nat) : w.frozen? ⟨g, i, none⟩ = false := by
  unfold Blk at h
  simp [World.frozen?, h]
theorem Blk.new (w : World) (t : TypeId) (cs : Array Value) : Blk (w.alloc (.cells cs t)) w.heap.size t cs := heap_alloc_new w _
theorem Blk.drew (h : Blk w g t cs) : Blk w.drew g t cs := h
theorem Blk.alloc (h : Blk w g t cs) (o : Obj) : Blk (w.alloc o) g t cs := (Below.heap_alloc w o g h.lt).trans h
theorem Blk.set_ (h : Blk w g t cs) (i : Nat) (u : Value) : Blk (w.setCell ⟨g, i, none⟩ u) g t (cs.setIfInBounds i u) := by
  unfold Blk at h ⊢
  simp [World.setCell, Array.getElem?_modify, h]
theorem Blk.far (h : Blk w g t cs) {p : Addr} (hp : g ≠ p.block) (u : Value) : Blk (w.setCell p u) g t cs := (Below.heap_setCell w p u g hp).trans h
theorem Blk.below {B : Nat} (h : Blk w g t cs) (hb : Below B w w') (hg : g < B) : Blk w' g t cs := (hb.block g hg).trans h
theorem Blk.grown {row : Option Nat} (h : Blk w g t cs) (hb : w.grownBy w' row) (hg : some g ≠ row) : Blk w' g t cs := (hb.block g h.lt hg).trans h
end

/-- A row that grew from nothing but new blocks. -/
theorem grown_below {w w' : World} (h : Below w.heap.size w w') (row : Option Nat) : w.grownBy w' row := ⟨h.os, h.tape, h.output, h.size, fun k hk _ => h.block k hk⟩
theorem below_grown {w w' : World} {g : Nat} (h : w.grownBy w' (some g)) (hg : g ≤ w.heap.size) : Below g w w' := ⟨h.os, h.tape, h.output, h.size, fun k hk => h.block k (by omega) (fun e => by injection e with e; omega)⟩
theorem below_grown_none {w w' : World} (h : w.grownBy w' none) : Below w.heap.size w w' := ⟨h.os, h.tape, h.output, h.size, fun k hk => h.block k hk (fun e => by cases e)⟩

theorem grown_setCell {w w' : World} {g : Nat} (h : w.grownBy w' (some g)) (i : Nat) (u : Value) : w.grownBy (w'.setCell ⟨g, i, none⟩ u) (some g) :=
  ⟨h.os, h.tape, h.output, by simpa using h.size, fun k hk hne => (Below.heap_setCell w' ⟨g, i, none⟩ u k (fun e => hne (by rw [e]))).trans (h.block k hk hne)⟩
theorem grown_refl (w : World) (row : Option Nat) : w.grownBy w row := ⟨rfl, rfl, rfl, Nat.le_refl _, fun _ _ _ => rfl⟩
theorem grown_trans {a b c : World} {row : Option Nat} (h : a.grownBy b row) (k : b.grownBy c row) : a.grownBy c row :=
  ⟨k.os.trans h.os, k.tape.trans h.tape, k.output.trans h.output, Nat.le_trans h.size k.size, fun i hi hne => (k.block i (Nat.lt_of_lt_of_le hi h.size) hne).trans (h.block i hi hne)⟩
/-- A later step that wrote a block which was not there before. -/
theorem grown_new {a b c : World} {row : Option Nat} {g : Nat} (h : a.grownBy b row) (k : b.grownBy c (some g)) (hg : a.heap.size ≤ g) : a.grownBy c row :=
  ⟨k.os.trans h.os, k.tape.trans h.tape, k.output.trans h.output, Nat.le_trans h.size k.size, fun i hi hne => (k.block i (Nat.lt_of_lt_of_le hi h.size) (fun e => by injection e with e; omega)).trans (h.block i hi hne)⟩
theorem grown_drew {a b : World} {row : Option Nat} (h : a.grownBy b row) : a.grownBy b.drew row := ⟨h.os, h.tape, h.output, h.size, h.block⟩

section
variable {P : Program} (w : World) {ops : Array Oper} {rest : List Oper} {o : Oper} {a : Act} {Q : Exit → Act → World → Prop}

theorem setRow_grown (g : Nat) (cs : Array Value) : w.grownBy (w.setRow g cs) (some g) :=
  ⟨rfl, rfl, rfl, by simp, fun k _ hne => setRow_other w g k cs (fun e => hne (by rw [e]))⟩

/-- A new variable. -/
theorem wpList_alloc_blk (hgd : Region.wanted o (yielded ops a.tmps) = true) (t : TypeId) (ho : o.op = .alloc t) (cs : Array Value) (hz : (P.info? t).map (·.zero) = some (some (.agg cs)))
    (h : ∀ w', Blk w' w.heap.size t cs → Below w.heap.size w w' → w.heap.size < w'.heap.size → wpList P ops Q rest (a.put o.dst (.pointer (some ⟨w.heap.size, 0, none⟩))) w') : wpList P ops Q (o :: rest) a w := by
  refine wpList_on hgd fun K hK => ?_
  obtain ⟨i, hi, hiz⟩ := Option.map_eq_some_iff.1 hz
  unfold Oper.wp
  simp only [execOp, ho, Instr.alloc, zeroValue, typeInfo, Sem.run_bind, Sem.run_pure, newVar, newRow, run_newObj_alloc]
  simp [hi, hiz, Result.andThen, Value.cells]
  exact hK _ _ (h _ (Blk.new w t cs) ((Below.refl _ _).alloc (Nat.le_refl _) _) (by simp))

/-- A variable boxed. -/
theorem wpList_box_blk (hgd : Region.wanted o (yielded ops a.tmps) = true) (t : TypeId) (x : Operand) (ho : o.op = .box t x) (cs : Array Value) (hx : a.eval x = .agg cs)
    (h : ∀ w', Blk w' w.heap.size t cs → Below w.heap.size w w' → w.heap.size < w'.heap.size → wpList P ops Q rest (a.put o.dst (.pointer (some ⟨w.heap.size, 0, none⟩))) w') : wpList P ops Q (o :: rest) a w := by
  refine wpList_on hgd fun K hK => ?_
  unfold Oper.wp
  simp [execOp, ho, hx, Instr.box, newVar, newRow, Value.cells, Result.andThen]
  exact hK _ _ (h _ (Blk.new w t cs) ((Below.refl _ _).alloc (Nat.le_refl _) _) (by simp))

/-- A whole variable stored into. -/
theorem wpList_store_blk (hgd : Region.wanted o (yielded ops a.tmps) = true) (ty : TypeId) (x y : Operand) (ho : o.op = .store ty x y) (g : Nat) (t : TypeId) (old cells : Array Value) (hx : a.eval x = .pointer (some ⟨g, 0, none⟩)) (hy : a.eval y = .agg cells)
    (hg : Blk w g t old) (hi : (P.info? ty).map (·.size) = some cells.size) (hold : old.size = cells.size) (h1 : cells.all (·.oneCell') = true)
    (h : ∀ w', Blk w' g t cells → w.grownBy w' (some g) → wpList P ops Q rest (a.put o.dst undef) w') : wpList P ops Q (o :: rest) a w := by
  refine wpList_on hgd fun K hK => ?_
  unfold Oper.wp
  simp only [execOp, ho, hx, hy, Instr.storeAt, Instr.sureAddr, Sem.run_bind, Sem.run_pure, Result.andThen_ok, run_storeVar_row w g t ty old cells hg hi hold h1]
  exact hK _ _ (h _ (setRow_heap w g old cells t (0, 0) hg) (setRow_grown w g cells))

/-- A whole variable read. -/
theorem wpList_load_blk (hgd : Region.wanted o (yielded ops a.tmps) = true) (ty : TypeId) (x : Operand) (ho : o.op = .load ty x) (g : Nat) (t : TypeId) (cs : Array Value) (d : TypeDesc) (hx : a.eval x = .pointer (some ⟨g, 0, none⟩))
    (hg : Blk w g t cs) (hu : P.underlying ty = some d) (hd : (match d with | .struct _ | .array _ _ => true | _ => false) = true) (hi : (P.info? ty).map (·.size) = some cs.size)
    (h : wpList P ops Q rest (a.put o.dst (.agg cs)) w) : wpList P ops Q (o :: rest) a w :=
  wpList_on hgd fun _ hK => wp_load_row ty x ho g hx t cs (0, 0) d hg hu hd hi (hK _ _ h)

/-- Two results, the first in a block. -/
theorem results_blk_tmp {fn : Func} {p u : Tmp} {ty : TypeId} (h : fn.results = #[.cell p ty, .tmp u]) (tmps : Array Value) (g : Nat) (t : TypeId) (cs : Array Value) (d : TypeDesc) (v2 : Value) (hv : tmps.getD u undef = v2)
    (hp : tmps.getD p undef = .pointer (some ⟨g, 0, none⟩)) (hg : Blk w g t cs) (hu : P.underlying ty = some d) (hd : (match d with | .struct _ | .array _ _ => true | _ => false) = true) (hi : (P.info? ty).map (·.size) = some cs.size) :
    (results fn tmps).run P w = .ok (.tuple #[.agg cs, v2]) w := by
  rw [results_cell_tmp h, hp, hv]
  simp only [asAddr, Sem.run_pure, Result.andThen_ok, run_loadVar_row w g t ty cs (0, 0) d hg hu hd hi]
theorem results_blk {fn : Func} {p : Tmp} {ty : TypeId} (h : fn.results = #[.cell p ty]) (tmps : Array Value) (g : Nat) (t : TypeId) (cs : Array Value) (d : TypeDesc)
    (hp : tmps.getD p undef = .pointer (some ⟨g, 0, none⟩)) (hg : Blk w g t cs) (hu : P.underlying ty = some d) (hd : (match d with | .struct _ | .array _ _ => true | _ => false) = true) (hi : (P.info? ty).map (·.size) = some cs.size) :
    (results fn tmps).run P w = .ok (.agg cs) w := results_cell_row h tmps w g t cs (0, 0) d hp hg hu hd hi
end
end Go.Proofs.YtdnnhoggpakjbaaDoor
