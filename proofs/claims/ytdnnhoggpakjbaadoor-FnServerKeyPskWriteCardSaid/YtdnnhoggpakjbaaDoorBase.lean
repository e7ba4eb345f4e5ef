/-
  WORDS THAT ALL PROOFS OF THIS SEAT SHARE: what a walk is told of an argument that came in (a row of integers, a row of strings), of a listed sentinel error, and how the arguments read again behind a call that keeps old memory. Plain lemmas; no condition.
-/
import Derived.Test.YtdnnhoggpakjbaaDoorChecked
import Derived.WalkKit
import Derived.WalkLawsBesides
import Derived.WalkSpells
import Derived.ProofKit
import Derived.OpenShut
import Derived.ShutString
import Derived.ChangeOld
import Derived.Below
import Derived.LaidMore
import Derived.SliceStrings
import Derived.Stop.LaidErr
import Derived.Stop.Joined
import Derived.Lib.Hide
namespace Go.Proofs.YtdnnhoggpakjbaaDoor
set_option linter.unusedSimpArgs false
set_option linter.unusedVariables false
open Go.ChangeShapes Go.WideShapes Go.ChangeAt Go.RowKit

/-- What a walk is told of a slice of integers that came in. -/
def IsRow (k : IntKind) (w : World) (a : Option Addr) (len cap : Nat) (zs : List Int) : Prop :=
  len ≤ cap ∧ cap ≤ maxLen ∧ zs.length = len ∧ (∀ n ∈ zs, (Lit.int k n).wf = true) ∧
  (0 < len → ∃ b off, a = some ⟨b, off, none⟩ ∧ b < w.heap.size ∧ ∀ i, i < len → w.cell? ⟨b, off + i, none⟩ = some (.int k (zs.getD i 0)))

/-- What a walk is told of a slice of strings that came in. -/
def IsStrs (w : World) (a : Option Addr) (len cap : Nat) (ss : List ByteArray) : Prop :=
  len ≤ cap ∧ cap ≤ maxLen ∧ ss.length = len ∧ (∀ s ∈ ss, s.size ≤ maxLen) ∧
  (0 < len → ∃ b off, a = some ⟨b, off, none⟩ ∧ b < w.heap.size ∧ ∀ i, i < len → w.cell? ⟨b, off + i, none⟩ = some (.string (ss.getD i ByteArray.empty)))

theorem IsRow.below {B : Nat} {k : IntKind} {w w' : World} {a : Option Addr} {len cap : Nat} {zs : List Int} (h : IsRow k w a len cap zs) (hb : Below B w w') (hB : w.heap.size ≤ B) : IsRow k w' a len cap zs := by
  obtain ⟨h1, h2, h3, h4, h5⟩ := h
  refine ⟨h1, h2, h3, h4, fun hp => ?_⟩
  obtain ⟨b, off, e, hlt, hc⟩ := h5 hp
  exact ⟨b, off, e, Nat.lt_of_lt_of_le hlt hb.size, fun i hi => (hb.cell (p := ⟨b, off + i, none⟩) (Nat.lt_of_lt_of_le hlt hB)).trans (hc i hi)⟩

theorem IsStrs.below {B : Nat} {w w' : World} {a : Option Addr} {len cap : Nat} {ss : List ByteArray} (h : IsStrs w a len cap ss) (hb : Below B w w') (hB : w.heap.size ≤ B) : IsStrs w' a len cap ss := by
  obtain ⟨h1, h2, h3, h4, h5⟩ := h
  refine ⟨h1, h2, h3, h4, fun hp => ?_⟩
  obtain ⟨b, off, e, hlt, hc⟩ := h5 hp
  exact ⟨b, off, e, Nat.lt_of_lt_of_le hlt hb.size, fun i hi => (hb.cell (p := ⟨b, off + i, none⟩) (Nat.lt_of_lt_of_le hlt hB)).trans (hc i hi)⟩

/-- A package-level error variable that holds an error made by errors.New. -/
def IsErr (T : TypeId) (w : World) (g : Nat) : Prop := ∃ a, w.cell? ⟨g, 0, none⟩ = some (.iface T (.pointer (some a)))

theorem IsErr.lt {T : TypeId} {w : World} {g : Nat} (h : IsErr T w g) : g < w.heap.size := by
  obtain ⟨a, h⟩ := h
  exact World.block_lt_of_cell? _ _ h

theorem IsErr.below {T : TypeId} {B : Nat} {w w' : World} {g : Nat} (h : IsErr T w g) (hb : Below B w w') (hg : g < B) : IsErr T w' g := by
  obtain ⟨a, h⟩ := h
  exact ⟨a, (hb.cell (p := ⟨g, 0, none⟩) hg).trans h⟩

/-- Arguments read behind a call that keeps old memory as they read before it. -/
theorem trodAll_below {H : Type} {enc : TypeId × Value → H} {P : Program} (hl : laidOutB P = true) {W W' : World} (hb : Below W.heap.size W W') :
    ∀ {ts : List TypeId} {vs : List Value} {ds : List (DataW H)} {ps : List MemPlace}, (ts.all fun t => P.readableRec t && decide (t < P.types.size)) = true →
      DataW.TrodAll enc P W 0 (fun _ => true) true ts vs ds ps → (∀ x ∈ ps, x.block < W.heap.size) → DataW.TrodAll enc P W' 0 (fun b => decide (b < W.heap.size)) true ts vs ds ps
  | [], _, _, _, _, h, _ => by
    obtain ⟨rfl, rfl, rfl⟩ := trodAll_nil h
    exact trodAll_mk0
  | t :: ts, _, _, _, hr, h, hlt => by
    obtain ⟨v, vs', d, ds', p, q, rfl, rfl, rfl, h0, h1⟩ := trodAll_cons h
    simp only [List.all_cons, Bool.and_eq_true, decide_eq_true_eq] at hr
    exact trodAll_cons_mk (Below.trod hl hr.1.1 hr.1.2 h0 hb fun x hx => hlt x (List.mem_append_left _ hx)) (trodAll_below hl hb hr.2 h1 fun x hx => hlt x (List.mem_append_right _ hx))

/-- What the row's list says of its first sentinel. -/
theorem laid_err {P : Program} {n nm : String} {text : List UInt8} {r : List (String × DataW Unit)} {W : World} {g : Nat} {ti tp te ts : TypeId} {ms : Array (String × TypeId)} {f : Field}
    (h : laidMet P ((n, .iface nm (.ptr (.agg [.lit (.string text)]))) :: r) W)
    (hg : P.globalNamed n = some g) (ht : (P.globals[g]?).map (·.type) = some ti) (hi : P.underlying ti = some (.interface ms)) (hrow : ∀ u, P.typeName? 3 u = some nm → u = tp)
    (hp : P.underlying tp = some (.pointer te)) (he : P.underlying te = some (.struct #[f])) (hft : f.type = ts) (hfo : f.offset = 0) (hs : P.underlying ts = some .string) (hc : P.cellsOf te = 1) (hcs : P.cellsOf ts = 1) :
    ∃ a, W.cell? ⟨g, 0, none⟩ = some (.iface tp (.pointer (some a))) := by
  obtain ⟨a, s, hv, _, _, _⟩ := laid_sentinel h hg ht hi hrow hp he hft hfo hs hc hcs
  exact ⟨a, by simpa using World.var?_cell hg hv 0⟩

theorem addr_plain {w : World} {x : Addr} {v : Value} (h : w.cell? (x.add 0) = some v) : ∃ b off, x = ⟨b, off, none⟩ := by
  obtain ⟨b, off, spot⟩ := x
  have hs := World.cell?_spot h
  simp [Addr.add] at hs
  exact ⟨b, off, by rw [hs]⟩

theorem add_plain (b off i : Nat) : (⟨b, off, none⟩ : Addr).add i = ⟨b, off + i, none⟩ := by
  unfold Addr.add
  split <;> simp_all

theorem open_row {H : Type} {enc : TypeId × Value → H} {P : Program} {w : World} {t e : TypeId} {k : IntKind} {a : Option Addr} {len cap : Nat} {d : DataW H} {p : List MemPlace} (ht : P.underlying t = some (.slice e)) (he : P.underlying e = some (.int k)) (hc : P.cellsOf e = 1)
    (h : DataW.Trod enc P w 0 (fun _ => true) true t (.slice a len cap) d p) : ∃ zs, IsRow k w a len cap zs := by
  obtain ⟨fuel, hf⟩ := h
  rcases open_ints ht he hc hf with ⟨hcs, _⟩ | ⟨x, l, c, zs, hcs, _, hl, hm, hz, hx, hcell, hwz⟩
  · simp [Value.cells] at hcs
    obtain ⟨rfl, rfl, rfl⟩ := hcs
    exact ⟨[], by simp [IsRow]⟩
  · simp [Value.cells] at hcs
    obtain ⟨rfl, rfl, rfl⟩ := hcs
    simp only [if_true] at hz
    refine ⟨zs.take len, hl, hm, by simp; omega, fun n hn => hwz n (List.mem_of_mem_take hn), fun hp => ?_⟩
    obtain ⟨b, off, rfl⟩ := addr_plain (hcell 0 (by omega))
    refine ⟨b, off, rfl, by simpa [add_plain] using World.block_lt_of_cell? _ _ (hcell 0 (by omega)), fun i hi => ?_⟩
    have := hcell i (by omega)
    rw [add_plain] at this
    rw [this]
    simp [List.getD, hi]

theorem open_strs' {H : Type} {enc : TypeId × Value → H} {P : Program} {w : World} {t e : TypeId} {a : Option Addr} {len cap : Nat} {d : DataW H} {p : List MemPlace} (ht : P.underlying t = some (.slice e)) (he : P.underlying e = some .string) (hc : P.cellsOf e = 1)
    (h : DataW.Trod enc P w 0 (fun _ => true) true t (.slice a len cap) d p) : ∃ ss, IsStrs w a len cap ss := by
  obtain ⟨fuel, hf⟩ := h
  rcases open_strings ht he hc hf with ⟨hcs, _⟩ | ⟨x, l, c, zs, hcs, _, hl, hm, hz, hx, hcell, hwz⟩
  · simp [Value.cells] at hcs
    obtain ⟨rfl, rfl, rfl⟩ := hcs
    exact ⟨[], by simp [IsStrs]⟩
  · simp [Value.cells] at hcs
    obtain ⟨rfl, rfl, rfl⟩ := hcs
    simp only [if_true] at hz
    refine ⟨zs.take len, hl, hm, by simp; omega, fun n hn => hwz n (List.mem_of_mem_take hn), fun hp => ?_⟩
    obtain ⟨b, off, rfl⟩ := addr_plain (hcell 0 (by omega))
    refine ⟨b, off, rfl, by simpa [add_plain] using World.block_lt_of_cell? _ _ (hcell 0 (by omega)), fun i hi => ?_⟩
    have := hcell i (by omega)
    rw [add_plain] at this
    rw [this]
    simp [List.getD, hi]

/-- An operation that the region wants: one without a guard, or one whose guard says yes. -/
theorem wpList_on {P : Program} {w : World} {ops : Array Oper} {rest : List Oper} {o : Oper} {a : Act} {Q : Exit → Act → World → Prop} (hw : Region.wanted o (yielded ops a.tmps) = true)
    (h : ∀ K : Act → World → Prop, (∀ a w, wpList P ops Q rest a w → K a w) → o.wp P a w K Q) : wpList P ops Q (o :: rest) a w :=
  wpList_step fun K hK => by rw [if_pos hw]; exact h K hK
end Go.Proofs.YtdnnhoggpakjbaaDoor
