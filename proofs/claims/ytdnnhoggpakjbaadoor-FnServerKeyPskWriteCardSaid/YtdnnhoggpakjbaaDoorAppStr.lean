/-
  LAW AND CONTRACTS: append of a string's bytes to a row of the call's own; impl.some; bigEndian.PutUint16 into a row of the call's own. Condition: the row is the call's own.
-/
import Derived.Test.YtdnnhoggpakjbaaDoorBlk
import Derived.Test.YtdnnhoggpakjbaaDoorMem
import Derived.Test.YtdnnhoggpakjbaaDoorBig
import Derived.Lib.AppendStr
import Derived.BigRegion
namespace Go.Proofs.YtdnnhoggpakjbaaDoor
open Go.RowKit
set_option linter.unusedVariables false
set_option linter.unusedSimpArgs false

section
variable {P : Program} (w : World) {ops : Array Oper} {rest : List Oper} {o : Oper} {a : Act} {Q : Exit → Act → World → Prop}
/-- 'append(v, s...)', v a row of the call's own (not nil), s a string. -/
theorem wpList_append_str (hgd : Region.wanted o (yielded ops a.tmps) = true) (s x : Operand) (t u : TypeId) (ho : o.op = .call { callee := .builtin .append, args := #[s, x], argTypes := #[t, u] })
    (base : Nat) (e : TypeId) (ht : P.underlying t = some (.slice e)) (hu : P.underlying u = some .string) (hinfo : (P.info? e).map (fun i => (i.zero, i.size, i.bytes)) = some (some (.int .u8 0), 1, 1))
    (g cap n : Nat) (l : List UInt8) (hs : a.eval s = .slice (some ⟨g, 0, none⟩) n cap) (hn : l.length = n) (hown : Own w base e g cap l)
    (st : ByteArray) (hx : a.eval x = .string st)
    (hbound : n + st.size ≤ 140737488355328) (hbase : base ≤ w.heap.size)
    (h : ∀ g' cap' w', Own w' base e g' cap' (l ++ st.data.toList) → w.grownBy w' (some g) → wpList P ops Q rest (a.put o.dst (.slice (some ⟨g', 0, none⟩) (n + st.size) cap')) w') :
    wpList P ops Q (o :: rest) a w := by
  subst hn
  obtain ⟨i0, hi, hz0, hz1, hz2⟩ := info_parts hinfo
  refine wpList_on hgd fun K hK => ?_
  obtain ⟨v', w', hr, hown', hgrow, hnil⟩ := Lib.run_append_own_string (P := P) w base t u o.type e i0 ht hu hi hz0 hz1 hz2 _ l.length (bvals l) hown st (by unfold maxLen; omega) (by omega) hbase
  unfold Oper.wp execOp
  simp only [ho, resolve, invoke, builtin, Sem.run_bind, Sem.run_pure, Result.andThen_ok, List.map_toArray, List.map_cons, List.map_nil, hs, hx, hr]
  rcases hown'.2 with ⟨h0, _⟩ | ⟨g', cap', cur, hv, _⟩
  · rw [hnil] at h0
    cases h0.1
  · subst hv
    refine hK _ _ (h g' cap' w' ?_ hgrow)
    unfold Own
    rw [bvals_append, List.length_append, toList_size]
    exact hown'
end

def SomeOk (s : ByteArray) (w w' : World) (e : Ending) : Prop :=
  ∃ g cap, e = .returned (.slice (some ⟨g, 0, none⟩) s.size cap) ∧ Bytes w' g 0 s.data.toList ∧ w.heap.size ≤ g ∧ g < w'.heap.size ∧ Below w.heap.size w w'

set_option maxRecDepth 100000 in
theorem some_yes (s : ByteArray) (hs : s.size < 4294967296) (w : World) : Calls Tryd.prog 19 #[.bool true, .string s] w fun e w' => SomeOk s w w' e := by
  go_enter Tryd.func19, Tryd.ntmps19
  go_wp2_with (at_builtin; refine wpList_append_str _ rfl (.tmp 7) (.tmp 8) 26 9 rfl w.heap.size 5 Tryd.underlying26 Tryd.underlying9 infoU8 w.heap.size 0 0 [] rfl rfl (Own.empty _ _ _ (Nat.le_refl _)) s rfl (by omega) (by simp) ?_; intro g cap w2 hown2 hgrow2; rw [Nat.zero_add, List.nil_append] at *)
  go_ret
  have hb := hown2.base_le
  exact ⟨g, cap, rfl, hown2.bytes, hb.1, hb.2, (((Below.refl _ _).alloc (Nat.le_refl _) _).grown hgrow2 (by simp) (by intro k hk; cases hk; exact Nat.le_refl _))⟩
set_option maxRecDepth 100000 in
theorem some_no (s : ByteArray) (w : World) : Calls Tryd.prog 19 #[.bool false, .string s] w fun e w' => e = .returned (.slice none 0 0) ∧ w = w' := by
  go_enter Tryd.func19, Tryd.ntmps19
  go_wp2
  go_ret
  exact ⟨rfl, rfl⟩

set_option maxRecDepth 100000 in
theorem put16_ok (base g cap n c : Nat) (l : List UInt8) (v : Nat) (hv : v < 65536) (hl : l.length = n) (hn : 2 ≤ (n : Int)) (w : World) (h : Own w base 5 g cap l) (rv : Value) :
    Calls Tryd.prog 22 #[.agg #[], .slice (some ⟨g, 0, none⟩) n c, .int .u16 v] w fun e w' => e = .returned (.tuple #[]) ∧ Own w' base 5 g cap (bigL v 2 ++ l.drop 2) ∧ w.grownBy w' (some g) := by
  have hc : ∃ a b r, l = a :: b :: r := by
    match l, hl with
    | [], h => simp at h; omega
    | [a], h => simp at h; omega
    | a :: b :: r, h => exact ⟨a, b, r, rfl⟩
  obtain ⟨a, b, r, rfl⟩ := hc
  have k0 := h.at 0 a rfl
  have k1 := h.at 1 b rfl
  have f0 := h.frozen 0
  have f1 := h.frozen 1
  have hgl := h.base_le
  have HO := Lib.hid h
  have hvi : (v : Int) < 65536 := by omega
  clear h hl
  go_enter Tryd.func22, Tryd.ntmps22
  go_wp2_with fail
  go_end0
  have h0 : ((UInt8.ofNat (v / 256)).toNat : Int) = (v : Int) / 256 := by simp; omega
  have h1 : ((UInt8.ofNat v).toNat : Int) = (v : Int) % 256 := by simp
  have hO := (HO.out.stored 0 (UInt8.ofNat (v / 256))).stored 1 (UInt8.ofNat v)
  rw [h0, h1] at hO
  refine ⟨rfl, ?_, ?_⟩
  · have e : bigL v 2 ++ (a :: b :: r).drop 2 = ((a :: b :: r).set 0 (UInt8.ofNat (v / 256))).set 1 (UInt8.ofNat v) := by simp [bigL]
    rw [e]
    exact hO.below ((Below.refl _ _).alloc (Nat.le_refl _) _) (by simp; exact hgl.2)
  · exact grown_trans (grown_setCell (grown_setCell (grown_refl w (some g)) 0 _) 1 _) (grown_below ((Below.refl _ _).alloc (Nat.le_refl _) _) _)
end Go.Proofs.YtdnnhoggpakjbaaDoor
