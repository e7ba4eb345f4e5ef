/-
  LAWS: an entry of a map literal ('insert'); a look-up in a map of bools that the call made; CONTRACT of elliptic.Curves. No condition.
-/
import Derived.Test.YtgjlnkciemdklaaDoorBlk
import Derived.Maps.Own
namespace Go.Proofs.YtgjlnkciemdklaaDoor
open Go.RowKit
set_option linter.unusedVariables false
set_option linter.unusedSimpArgs false

theorem wpList_insert_own {H : Type} {P : Program} (w : World) {ops : Array Oper} {rest : List Oper} {o : Oper} {a : Act} {Q : Exit → Act → World → Prop}
    (hg : o.guard = none) (m x v : Operand) (t : TypeId) (hop : o.op = Op.insert t m x v)
    (k e : TypeId) (K : Go.Maps.Keyed P k) (ht : P.underlying t = some (.map k e)) (R : Value → Option (DataW H × List MemPlace)) (b n : Nat) (D : DataW H)
    (hm : a.eval m = .map (some b)) (hown : w.ownsMap P k R b n D) (hn : n < maxLen) (key val : Value) (kl : Lit) (hx : a.eval x = key) (hv : a.eval v = val) (hkey : keyOf P k key = some kl)
    (d : DataW H) (ps : List MemPlace) (hval : R val = some (d, ps))
    (hK : ∀ w', w'.ownsMap P k R b (n + 1) (D.put kl d) → w.grownBy w' (some b) → wpList P ops Q rest (a.put o.dst undef) w') :
    wpList P ops Q (o :: rest) a w := by
  refine wpList_plain hg fun K' hK' => ?_
  obtain ⟨w', hrun, r1, r2⟩ := hown.update K ht hn hkey hval
  unfold Oper.wp
  simp [execOp, hop, hm, hx, hv, hrun, Result.andThen]
  exact hK' _ _ (hK w' r1 r2)

theorem plainElem_bool_inv {H : Type} {P : Program} {e : TypeId} (he : P.underlying e = some .bool) {v : Value} {z : DataW H × List MemPlace} (h : plainElem P e v = some z) : ∃ a, v = .bool a := by
  unfold plainElem at h
  rw [he] at h
  cases v <;> simp at h
  exact ⟨_, rfl⟩
theorem look_bool {H : Type} {P : Program} {w : World} {k t e : TypeId} {b n : Nat} {D : DataW H} (h : w.ownsMap P k (plainElem P e) b n D) (K : Go.Maps.Keyed P k) (ht : P.underlying t = some (.map k e)) (he : P.underlying e = some .bool) (hz : (zeroValue e).run P w = .ok (.bool false) w)
    {key : Value} {kl : Lit} (hkey : keyOf P k key = some kl) : ∃ c, (Instr.lookup t (.map (some b)) key false).run P w = .ok (.bool c) w := by
  obtain ⟨v, ps, hrun, hv⟩ := h.lookup K ht hz (plainElem_bool he false) hkey
  obtain ⟨c, rfl⟩ := plainElem_bool_inv he hv
  exact ⟨c, hrun⟩

def Curve : World → Nat → Prop := fun w b => ∃ n D, w.ownsMap (H := Unit) Tryd.prog 180 (plainElem Tryd.prog 4) b n D
theorem law16 : Go.Maps.Keyed Tryd.prog 180 := Go.Maps.int_keyed Tryd.underlying180
theorem key16 (n : Int) (h : (Lit.int .u16 n).wf = true) : keyOf Tryd.prog 180 (.int .u16 n) = some (.int .u16 n) := Go.Maps.keyOf_int_mk Tryd.underlying180 h
theorem zeroB (w : World) : (zeroValue 4).run Tryd.prog w = .ok (.bool false) w := by kernel_rfl

set_option maxRecDepth 100000 in
theorem curves (w : World) : Calls Tryd.prog 104 #[] w fun e w' => e = .returned (.map (some w.heap.size)) ∧ Curve w' w.heap.size ∧ Below w.heap.size w w' := by
  have hmm := @run_makeMap Tryd.prog
  have h0 := World.ownsMap_made (H := Unit) w Tryd.prog 180 (plainElem Tryd.prog 4)
  have hb0 : Below w.heap.size w (w.alloc (.map #[] 0)) := (Below.refl _ _).alloc (Nat.le_refl _) _
  have H0 := Lib.hid (And.intro h0 hb0)
  clear h0 hb0
  go_enter Tryd.func104, Tryd.ntmps104
  go_wp2_with (first
    | (refine wpList_insert_own _ rfl (.tmp 1) (.const (.int .u16 29)) (.const (.bool true)) 184 rfl 180 4 law16 Tryd.underlying184 _ w.heap.size _ _ rfl H0.out.1 (by decide) _ _ _ rfl rfl (key16 29 rfl) _ [] (plainElem_bool Tryd.underlying4 true) ?_; intro w1 h1 hg1)
    | (refine wpList_insert_own _ rfl (.tmp 1) (.const (.int .u16 23)) (.const (.bool true)) 184 rfl 180 4 law16 Tryd.underlying184 _ w.heap.size _ _ rfl h1 (by decide) _ _ _ rfl rfl (key16 23 rfl) _ [] (plainElem_bool Tryd.underlying4 true) ?_; intro w2 h2 hg2)
    | (refine wpList_insert_own _ rfl (.tmp 1) (.const (.int .u16 24)) (.const (.bool true)) 184 rfl 180 4 law16 Tryd.underlying184 _ w.heap.size _ _ rfl h2 (by decide) _ _ _ rfl rfl (key16 24 rfl) _ [] (plainElem_bool Tryd.underlying4 true) ?_; intro w3 h3 hg3))
  go_ret
  refine ⟨rfl, ⟨_, _, h3⟩, ?_⟩
  have g1 := (hg1.size)
  exact H0.out.2.trans (((below_grown hg1 (by simp)).trans (below_grown hg2 (by have := hg1.size; simp at this; omega))).trans (below_grown hg3 (by have := hg1.size; have := hg2.size; simp at *; omega)))
end Go.Proofs.YtgjlnkciemdklaaDoor
