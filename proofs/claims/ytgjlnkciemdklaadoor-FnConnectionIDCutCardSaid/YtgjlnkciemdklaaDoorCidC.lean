/-
  CONTRACTS of ConnectionIDRead, at a whole text and at a cut one.
-/
import Derived.Test.YtgjlnkciemdklaaDoorCidB
namespace Go.Proofs.YtgjlnkciemdklaaDoor.fnConnectionIDCut
open Go.ChangeShapes Go.WideShapes Go.ChangeAt Go.RowKit
set_option linter.unusedVariables false
set_option linter.unusedSimpArgs false
theorem build0X (w : World) : (Instr.build 85 #[]).run Tryd.prog w = .ok (.agg #[.slice none 0 0]) w := by kernel_rfl

/-- What a read that goes well leaves. -/
def ReadYes (e : Ending) : Prop := ∃ s : ByteArray, e = .returned (.tuple #[.agg (ext0 54 s false 0 false), .bool true])

set_option maxHeartbeats 4000000 in
set_option maxRecDepth 100000 in
theorem read_yes (s : ByteArray) (m : Nat) (w : World) (hl : s.size = 5 + m) (hm : s.size < 2147483648) (ht : two s.data.toList 0 = 54) (hd : numOf ((s.data.toList.drop 2).take 2) = 1 + m) (hk : numOf ((s.data.toList.drop 4).take 1) = m) :
    Calls Tryd.prog 21 #[.string s] w fun e w' => ReadYes e ∧ Below w.heap.size w w' := by
  have hll := toList_size s
  have HD := Lib.hid (And.intro ht (And.intro hd hk))
  have HLS := Lib.hid hl
  have hml : s.size ≤ maxLen := by unfold maxLen; omega
  clear ht hd hk hl
  go_enter Tryd.func21, Tryd.ntmps21
  go_wp2_with (first
    | (refine wpList_alloc_blk (o := ⟨some 2, _, _, _, _, _⟩) _ rfl 39 rfl zeroExt zext ?_; intro w1 hR1 hb1 hz1)
    | (refine wpList_build _ rfl 85 #[] rfl #[] rfl _ (build0X _) ?_)
    | (refine wpList_box_blk _ rfl 85 (.tmp 6) rfl #[.slice none 0 0] rfl ?_; intro w2 hX2 hb2 hz2)
    | (refine wpList_to_bytes _ rfl (.tmp 9) 9 68 5 rfl Tryd.underlying9 Tryd.underlying68 Tryd.underlying5 s rfl hml ?_; intro c w3 hc hc2 hb3 hz3 hB3))
  have hX3 := hX2.below hb3 hz2
  have hR3 : Blk w3 w.heap.size 39 zeroExt := (hR1.below hb2 hz1).below hb3 (by omega)
  refine (unm_ok w1.heap.size w2.heap.size s.size c m s.data.toList w3 hX3 hll hB3 hz3 (by omega) hc hm HLS.out HD.out.1 HD.out.2.1 HD.out.2.2).mono ?_
  rintro e w4 ⟨rfl, g, l', hX4, hl4, hB4, hg4, hgr4⟩
  have hR4 := hR3.grown hgr4 (by simp; omega)
  go_wp2_with fail
  refine (data w4 w1.heap.size g m l' hX4 hl4 hB4 hg4).mono ?_
  rintro e w5 ⟨rfl, hb5⟩
  have hR5 := hR4.below hb5 hR4.lt
  go_wp2_with (refine wpList_store_blk (y := .tmp 16) _ rfl 39 (.tmp 2) rfl w.heap.size 39 zeroExt (ext0 54 ⟨l'.toArray⟩ false 0 false) rfl rfl hR5 sext rfl (ext0_one _ _ _ _ _) ?_; intro w6 hR6 hg6)
  have h4 : Below w.heap.size w w4 := hb1.trans ((hb2.mono (Nat.le_of_lt hz1)).trans ((hb3.mono (by omega)).trans ((below_grown hgr4 (by omega)).mono (Nat.le_of_lt hz1))))
  have h5 := h4.trans (hb5.mono h4.size)
  have hy : ReadYes (.returned (.tuple #[.agg (ext0 54 ⟨l'.toArray⟩ false 0 false), .bool true])) := ⟨_, rfl⟩
  refine bodyPost_ret (v := .tuple #[.agg (ext0 54 ⟨l'.toArray⟩ false 0 false), .bool true]) (results_blk_tmp _ rfl _ w.heap.size 39 _ _ (.bool true) rfl rfl hR6 Tryd.underlying39 rfl sext) rfl ⟨hy, ?_⟩
  exact h5.trans (below_grown hg6 h5.size)

set_option maxHeartbeats 4000000 in
set_option maxRecDepth 100000 in
theorem read_no (s : ByteArray) (w : World) (hm : s.size < 2147483648) (hcut : s.size < 2 ∨ (2 ≤ s.size ∧ two s.data.toList 0 = 54 ∧ (s.size < 4 ∨ s.size < 4 + numOf ((s.data.toList.drop 2).take 2))))
    (e1 : IsErr 206 w 1) (e2 : IsErr 206 w 2) :
    Calls Tryd.prog 21 #[.string s] w fun e w' => e = .returned (.tuple #[.agg zeroExt, .bool false]) ∧ Below w.heap.size w w' := by
  have hll := toList_size s
  have HD := Lib.hid hcut
  have hml : s.size ≤ maxLen := by unfold maxLen; omega
  clear hcut
  go_enter Tryd.func21, Tryd.ntmps21
  go_wp2_with (first
    | (refine wpList_alloc_blk (o := ⟨some 2, _, _, _, _, _⟩) _ rfl 39 rfl zeroExt zext ?_; intro w1 hR1 hb1 hz1)
    | (refine wpList_build _ rfl 85 #[] rfl #[] rfl _ (build0X _) ?_)
    | (refine wpList_box_blk _ rfl 85 (.tmp 6) rfl #[.slice none 0 0] rfl ?_; intro w2 hX2 hb2 hz2)
    | (refine wpList_to_bytes _ rfl (.tmp 9) 9 68 5 rfl Tryd.underlying9 Tryd.underlying68 Tryd.underlying5 s rfl hml ?_; intro c w3 hc hc2 hb3 hz3 hB3))
  have hX3 := hX2.below hb3 hz2
  have hR3 : Blk w3 w.heap.size 39 zeroExt := (hR1.below hb2 hz1).below hb3 (by omega)
  have h3 : Below w.heap.size w w3 := hb1.trans ((hb2.mono (Nat.le_of_lt hz1)).trans (hb3.mono (by omega)))
  have key : Calls Tryd.prog 47 #[.pointer (some ⟨w1.heap.size, 0, none⟩), .slice (some ⟨w2.heap.size, 0, none⟩) s.size c] w3 fun e w' => SomeErr e ∧ Below w3.heap.size w3 w' := by
    rcases HD.out with h | ⟨h, ht, h'⟩
    · exact unm_cut2 w1.heap.size w2.heap.size s.size c s.data.toList w3 hX3 hll hB3 hz3 hc h (e1.below h3 e1.lt)
    · exact unm_cut4 w1.heap.size w2.heap.size s.size c s.data.toList w3 hX3 hll hB3 hz3 hc h hm ht h' (e2.below h3 e2.lt)
  refine key.mono ?_
  rintro e w4 ⟨⟨a, rfl⟩, hb4⟩
  have hR4 := hR3.below hb4 (by omega)
  have h4 := h3.trans (hb4.mono h3.size)
  clear key hX3
  go_wp2_with (first
    | (refine wpList_build _ rfl 39 #[] rfl #[] rfl _ (build0Ext _) ?_)
    | (refine wpList_store_blk (y := .tmp 14) _ rfl 39 (.tmp 2) rfl w.heap.size 39 zeroExt zeroExt rfl rfl hR4 sext rfl (ext0_one _ _ _ _ _) ?_; intro w6 hR6 hg6))
  refine bodyPost_ret (v := .tuple #[.agg zeroExt, .bool false]) (results_blk_tmp _ rfl _ w.heap.size 39 _ _ (.bool false) rfl rfl hR6 Tryd.underlying39 rfl sext) rfl ⟨rfl, ?_⟩
  exact h4.trans (below_grown hg6 h4.size)
end Go.Proofs.YtgjlnkciemdklaaDoor.fnConnectionIDCut
