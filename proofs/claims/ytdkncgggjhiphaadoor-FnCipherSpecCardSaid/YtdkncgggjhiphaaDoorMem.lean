/-
  LAWS OF MEMORY FOR THE WALKS OF THIS SEAT, over any program: a slice of bytes that reads as a list of bytes; the two conversions between strings and bytes; append, make and copy, each with what a walk needs behind it and no more. Plain lemmas; no condition.
-/
import Derived.Test.YtdkncgggjhiphaaDoorBase
import Derived.Laws.IdiomStrings
import Derived.Maps.AppendAt
import Derived.Deep.AppendLies
import Derived.Laws.CopyOwn
namespace Go.Proofs.YtdkncgggjhiphaaDoor
open Go.RowKit

/-- The cells of a run of bytes that begins at ⟨b, off⟩. -/
def Bytes (w : World) (b off : Nat) (l : List UInt8) : Prop := ∀ i, (h : i < l.length) → w.cell? ⟨b, off + i, none⟩ = some (.int .u8 ((l[i]).toNat : Int))

theorem Bytes.below {B : Nat} {w w' : World} {b off : Nat} {l : List UInt8} (h : Bytes w b off l) (hb : Below B w w') (hB : b < B) : Bytes w' b off l :=
  fun i hi => (hb.cell (p := ⟨b, off + i, none⟩) hB).trans (h i hi)
theorem Bytes.drop {w : World} {b off : Nat} {l : List UInt8} (h : Bytes w b off l) (k : Nat) : Bytes w b (off + k) (l.drop k) := fun i hi => by
  have := h (k + i) (by simp at hi; omega)
  rw [Nat.add_assoc]
  simpa using this
theorem Bytes.take {w : World} {b off : Nat} {l : List UInt8} (h : Bytes w b off l) (k : Nat) : Bytes w b off (l.take k) := fun i hi => by
  have := h i (by simp at hi; omega)
  simpa using this
theorem Bytes.getD {w : World} {b off : Nat} {l : List UInt8} (h : Bytes w b off l) (i : Nat) (hi : i < l.length) : w.cell? ⟨b, off + i, none⟩ = some (.int .u8 ((l.getD i 0).toNat : Int)) := by
  rw [h i hi]
  simp [List.getD, hi]
theorem Bytes.lt {w : World} {b off : Nat} {l : List UInt8} (h : Bytes w b off l) (hl : 0 < l.length) : b < w.heap.size := by
  simpa using World.block_lt_of_cell? _ _ (h 0 hl)

theorem toList_size (s : ByteArray) : s.data.toList.length = s.size := by simp

theorem toList_data (s : ByteArray) : s.toList = s.data.toList := ByteArray.toList_eq s

/-- The values of bytes. -/
def bvals (l : List UInt8) : List Value := l.map fun b => .int .u8 (b.toNat : Int)
theorem bvals_length (l : List UInt8) : (bvals l).length = l.length := by simp [bvals]
theorem bvals_append (l m : List UInt8) : bvals (l ++ m) = bvals l ++ bvals m := by simp [bvals]
theorem bvals_oneCell (l : List UInt8) : ∀ u ∈ bvals l, u.oneCell' = true := by
  intro u hu
  simp only [bvals, List.mem_map] at hu
  obtain ⟨b, _, rfl⟩ := hu
  rfl
theorem Bytes.news {w : World} {b off : Nat} {l : List UInt8} (h : Bytes w b off l) : ∀ j u, (bvals l)[j]? = some u → w.cell? ((⟨b, off, none⟩ : Addr).add j) = some u := by
  intro j u hj
  have hl : j < l.length := by
    have := (List.getElem?_eq_some_iff.1 hj).1
    simpa [bvals] using this
  rw [add_plain, h j hl]
  simp [bvals, List.getElem?_eq_getElem hl] at hj
  rw [hj]
/-- A row of the call's own that holds bytes is read. -/
theorem bytes_of_own {w : World} {base : Nat} {e : TypeId} {g cap : Nat} {l : List UInt8} (h : w.ownsRow base e 1 (.slice (some ⟨g, 0, none⟩) l.length cap) l.length (bvals l)) : Bytes w g 0 l := by
  intro i hi
  have := h.cells (g := g) rfl i (.int .u8 ((l[i]).toNat : Int)) (by simp [bvals, List.getElem?_eq_getElem hi])
  rw [add_plain] at this
  exact this

section
variable {P : Program} (w : World) {ops : Array Oper} {rest : List Oper} {o : Oper} {a : Act} {Q : Exit → Act → World → Prop}

/-- '[]byte(s)'. -/
theorem wpList_to_bytes (hgd : o.guard = none) (x : Operand) (src dst e : TypeId) (ho : o.op = .convert src dst x) (hs : P.underlying src = some .string) (hd : P.underlying dst = some (.slice e)) (he : P.underlying e = some (.int .u8))
    (s : ByteArray) (hx : a.eval x = .string s) (hm : s.size ≤ maxLen)
    (h : ∀ c w', s.size ≤ c → c ≤ maxLen → Below w.heap.size w w' → w.heap.size < w'.heap.size → Bytes w' w.heap.size 0 s.data.toList → wpList P ops Q rest (a.put o.dst (.slice (some ⟨w.heap.size, 0, none⟩) s.size c)) w') :
    wpList P ops Q (o :: rest) a w := by
  refine wpList_plain hgd fun K hK => ?_
  have hrun := run_bytes_of_string (P := P) w src dst e s hs hd he
  unfold Oper.wp
  simp only [execOp, ho, Sem.run_bind, Sem.run_pure, hx, hrun, Result.andThen_ok, Oper.upon_value]
  refine hK _ _ (h _ _ (grownCap_ge w s.size 0 e) (grownCap_le_maxLen w s.size 0 e hm) ?_ (by simp) ?_)
  · exact (Below.drew (Below.refl _ _)).alloc (Nat.le_refl _) _
  · intro i hi
    have hb := bytesRow_at s (grownCap w s.size 0 e) i (by simpa using hi)
    have hc := World.cell?_alloc_mark w.drew (bytesRow s (grownCap w s.size 0 e)) e ((bytesRow s (grownCap w s.size 0 e)).size, (bytesRow s (grownCap w s.size 0 e)).size + 1) i
    simp only [Nat.zero_add]
    exact hc.trans (by rw [hb]; simp)

/-- 'string(b)'. -/
theorem wpList_to_string (hgd : o.guard = none) (x : Operand) (src dst e : TypeId) (ho : o.op = .convert src dst x) (hs : P.underlying src = some (.slice e)) (he : P.underlying e = some (.int .u8)) (hd : P.underlying dst = some .string)
    (b off n c : Nat) (l : List UInt8) (hx : a.eval x = .slice (some ⟨b, off, none⟩) n c) (hn : l.length = n) (hb : Bytes w b off l)
    (h : wpList P ops Q rest (a.put o.dst (.string ⟨l.toArray⟩)) w) :
    wpList P ops Q (o :: rest) a w := by
  subst hn
  refine wpList_plain hgd fun K hK => ?_
  have hrun := run_convert_bytes_back (P := P) w src dst e ⟨b, off, none⟩ c l hs he hd (fun j hj => by rw [add_plain]; exact hb j hj)
  unfold Oper.wp
  simp only [execOp, ho, Sem.run_bind, Sem.run_pure, hx, hrun, Result.andThen_ok, Oper.upon_value]
  exact hK _ _ h
end
end Go.Proofs.YtdkncgggjhiphaaDoor
