/-
  CONTRACTS of dataServerName and of ServerNameRead at a text that is laid out as the standard says, for a name with and without a last point; the text's layout.
-/
import Derived.Test.YtgjlnkciemdklaaDoorSnameB
namespace Go.Proofs.YtgjlnkciemdklaaDoor.fnServerNameCut
open Go.ChangeShapes Go.WideShapes Go.ChangeAt Go.RowKit
set_option linter.unusedVariables false
set_option linter.unusedSimpArgs false

set_option maxHeartbeats 4000000 in
set_option maxRecDepth 100000 in
theorem data (w : World) (p : Nat) (s : ByteArray) (hX : Blk w p 120 #[.string s]) :
    Calls Tryd.prog 70 #[.pointer (some ⟨p, 0, none⟩)] w fun e w' => e = .returned (.agg (ext0 0 s false 0 false)) ∧ Below w.heap.size w w' := by
  have hpl := hX.lt
  go_enter Tryd.func70, Tryd.ntmps70
  go_wp2_with (first
    | (refine wpList_alloc_blk (o := ⟨some 2, _, _, _, _, _⟩) _ rfl 39 rfl zeroExt zext ?_; intro w1 hR1 hb1 hz1)
    | (refine wpList_build _ rfl 39 #[(0, .const (.int .u16 0))] rfl #[(0, .int .u16 0)] rfl _ (buildT 0 _) ?_)
    | (refine wpList_alloc_blk (o := ⟨some 3, _, _, _, _, _⟩) _ rfl 39 rfl zeroExt zext ?_; intro w2 hO2 hb2 hz2)
    | (refine wpList_store_blk (y := .tmp 4) _ rfl 39 (.tmp 3) rfl w1.heap.size 39 zeroExt (ext0 0 ⟨#[]⟩ false 0 false) rfl rfl hO2 sext rfl (ext0_one _ _ _ _ _) ?_; intro w3 hO3 hg3; have x3 := (((hX.below hb1 hpl).below hb2 (by omega)).grown hg3 (by simp; omega)).at 0 (.string s) rfl; have c1 := hO3.at 1 (.string ⟨#[]⟩) rfl; have f1 := hO3.frozen 1; have hR3 : Blk w3 w.heap.size 39 zeroExt := (hR1.below hb2 (by omega)).grown hg3 (by simp; omega); have hb3 : Below w.heap.size w w3 := hb1.trans ((hb2.mono (Nat.le_of_lt hz1)).trans ((below_grown hg3 (Nat.le_of_lt hz2)).mono (Nat.le_of_lt hz1))))
    | (refine wpList_load_blk _ rfl 39 (.tmp 3) rfl w1.heap.size 39 (ext0 0 s false 0 false) _ rfl (hO3.set_ 1 _) Tryd.underlying39 rfl sext ?_)
    | (refine wpList_store_blk (y := .tmp 10) _ rfl 39 (.tmp 2) rfl w.heap.size 39 zeroExt (ext0 0 s false 0 false) rfl rfl (hR3.far (p := ⟨w1.heap.size, 1, none⟩) (by show w.heap.size ≠ w1.heap.size; omega) _) sext rfl (ext0_one _ _ _ _ _) ?_; intro w4 hR4 hg4))
  refine bodyPost_ret (v := .agg (ext0 0 s false 0 false)) (results_blk _ rfl _ w.heap.size 39 _ _ rfl hR4 Tryd.underlying39 rfl sext) rfl ⟨rfl, ?_⟩
  exact (hb3.setCell (p := ⟨w1.heap.size, 1, none⟩) (Nat.le_of_lt hz1) _).trans (below_grown hg4 (by have := hb3.size; simp; omega))

def ReadDot (dot : Bool) (s : ByteArray) : Value := if dot then .tuple #[.agg zeroExt, .bool false] else .tuple #[.agg (ext0 0 s false 0 false), .bool true]

theorem snL_length (l : List UInt8) : (snL l).length = 5 + l.length := by
  simp [snL, bigL_length]; omega
theorem snL_vec (s : ByteArray) (w : World) (hs : s.size < 65000) :
    Calls Tryd.prog 20 #[.string (⟨#[0]⟩ ++ ⟨(bigL s.size 2 ++ s.data.toList).toArray⟩), .int .i64 2] w fun e w' => e = .returned (.string ⟨(snL s.data.toList).toArray⟩) ∧ Below w.heap.size w w' := by
  have e1 : (⟨#[0]⟩ ++ ⟨(bigL s.size 2 ++ s.data.toList).toArray⟩ : ByteArray) = ⟨(0 :: (bigL s.size 2 ++ s.data.toList)).toArray⟩ := str_app2 [0] _
  have hll := toList_size s
  have hsz : (⟨(0 :: (bigL s.size 2 ++ s.data.toList)).toArray⟩ : ByteArray).size = 3 + s.size := by
    show (0 :: (bigL s.size 2 ++ s.data.toList)).toArray.size = _
    simp [bigL_length]; omega
  rw [e1]
  have := vec_any ⟨(0 :: (bigL s.size 2 ++ s.data.toList)).toArray⟩ 2 w (by omega) (by omega)
  rw [hsz] at this
  unfold snL
  rw [hll]
  exact this

set_option maxHeartbeats 4000000 in
set_option maxRecDepth 100000 in
theorem read (s r : ByteArray) (dot : Bool) (w : World) (hr : r = ex 0 (snL s.data.toList)) (h1 : 1 ≤ s.size) (h2 : s.size < 65000) (hdot : ∀ h : s.size - 1 < s.size, (s[s.size - 1]'h == 46) = dot) (ef : IsErr 206 w 13) :
    Calls Tryd.prog 30 #[.string r] w fun e w' => e = .returned (ReadDot dot s) ∧ Below w.heap.size w w' := by
  have hll := toList_size s
  have hrl := toList_size r
  have hsz : r.size = 4 + (5 + s.size) := by rw [hr, ex_size, snL_length, hll]
  have ht : two r.data.toList 0 = 0 := by rw [hr]; exact ex_two 0 _ (by omega)
  have hd : numOf ((r.data.toList.drop 2).take 2) = 5 + s.size := by rw [hr, ex_num 0 _ (by rw [snL_length]; omega), snL_length, hll]
  have h4 : r.data.toList.drop 4 = snL s.data.toList := by rw [hr]; exact ex_drop 0 _
  have hml : r.size ≤ maxLen := by unfold maxLen; omega
  have HD := Lib.hid (And.intro hsz (And.intro ht (And.intro hd (And.intro h4 (And.intro h1 h2)))))
  have HDOT := Lib.hid hdot
  clear hr hsz ht hd h4 h1 h2 hdot
  go_enter Tryd.func30, Tryd.ntmps30
  go_wp2_with (first
    | (refine wpList_alloc_blk (o := ⟨some 2, _, _, _, _, _⟩) _ rfl 39 rfl zeroExt zext ?_; intro w1 hR1 hb1 hz1)
    | (refine wpList_build _ rfl 120 #[] rfl #[] rfl _ (build0X _) ?_)
    | (refine wpList_box_blk _ rfl 120 (.tmp 6) rfl #[.string ⟨#[]⟩] rfl ?_; intro w2 hX2 hb2 hz2)
    | (refine wpList_to_bytes _ rfl (.tmp 9) 9 68 5 rfl Tryd.underlying9 Tryd.underlying68 Tryd.underlying5 r rfl hml ?_; intro c w3 hc hc2 hb3 hz3 hB3))
  have hX3 := hX2.below hb3 hz2
  have hR3 : Blk w3 w.heap.size 39 zeroExt := (hR1.below hb2 hz1).below hb3 (by omega)
  have h3 : Below w.heap.size w w3 := hb1.trans ((hb2.mono (Nat.le_of_lt hz1)).trans (hb3.mono (by omega)))
  refine (unm_ok w1.heap.size w2.heap.size r.size c (5 + s.size) s.size dot s r.data.toList w3 hX3 hrl hB3 hz3 (by omega) hc (by have := HD.out; omega) (by have := HD.out; omega) HD.out.2.1 ⟨HD.out.1, HD.out.2.2.1⟩ ⟨rfl, HD.out.2.2.2.2.1, HD.out.2.2.2.2.2, rfl, HD.out.2.2.2.1⟩ HDOT.out (ef.below h3 ef.lt)).mono ?_
  rintro e w4 ⟨hcase, hgr4⟩
  have hR4 := hR3.grown hgr4 (by simp; omega)
  have h4 : Below w.heap.size w w4 := h3.trans ((below_grown hgr4 (by omega)).mono (Nat.le_of_lt hz1))
  rcases hcase with ⟨rfl, a, rfl⟩ | ⟨rfl, rfl, hX4⟩
  · clear hX3 hgr4
    go_wp2_with (first
      | (refine wpList_build _ rfl 39 #[] rfl #[] rfl _ (build0Ext _) ?_)
      | (refine wpList_store_blk (y := .tmp 14) _ rfl 39 (.tmp 2) rfl w.heap.size 39 zeroExt zeroExt rfl rfl hR4 sext rfl (ext0_one _ _ _ _ _) ?_; intro w6 hR6 hg6))
    refine bodyPost_ret (v := .tuple #[.agg zeroExt, .bool false]) (results_blk_tmp _ rfl _ w.heap.size 39 _ _ (.bool false) rfl rfl hR6 Tryd.underlying39 rfl sext) rfl ⟨rfl, ?_⟩
    exact h4.trans (below_grown hg6 h4.size)
  · clear hX3 hgr4
    go_wp2_with fail
    refine (data w4 w1.heap.size s hX4).mono ?_
    rintro e w5 ⟨rfl, hb5⟩
    have hR5 := hR4.below hb5 hR4.lt
    have h5 := h4.trans (hb5.mono h4.size)
    go_wp2_with (refine wpList_store_blk (y := .tmp 16) _ rfl 39 (.tmp 2) rfl w.heap.size 39 zeroExt (ext0 0 s false 0 false) rfl rfl hR5 sext rfl (ext0_one _ _ _ _ _) ?_; intro w6 hR6 hg6)
    refine bodyPost_ret (v := .tuple #[.agg (ext0 0 s false 0 false), .bool true]) (results_blk_tmp _ rfl _ w.heap.size 39 _ _ (.bool true) rfl rfl hR6 Tryd.underlying39 rfl sext) rfl ⟨rfl, ?_⟩
    exact h5.trans (below_grown hg6 h5.size)
end Go.Proofs.YtgjlnkciemdklaaDoor.fnServerNameCut
