/-
  CONTRACTS of dataKeyShare at a selected group (or none) and of KeyShareRead at a whole text. Condition: as in KsB.
-/
import Derived.Test.YtgjlnkciemdklaaDoorKsB
namespace Go.Proofs.YtgjlnkciemdklaaDoor.fnKeyShareGroupCut
open Go.ChangeShapes Go.WideShapes Go.ChangeAt Go.RowKit
set_option linter.unusedVariables false
set_option linter.unusedSimpArgs false

/-- An extension of type 51 with a list of selected groups. -/
def ksC (v : Value) : Array Value := extC 51 ⟨#[]⟩ false 0 false (.slice none 0 0) (.slice none 0 0) (.slice none 0 0) (.slice none 0 0) (.slice none 0 0) v (.slice none 0 0) (.slice none 0 0)
theorem ksC_one (v : Value) (h : v.oneCell' = true) : (ksC v).all (·.oneCell') = true := extC_one _ _ _ _ _ _ _ _ _ _ _ _ _ rfl rfl rfl rfl rfl h rfl rfl
def DataOk (w w' : World) (e : Ending) : Prop := ∃ v : Value, v.oneCell' = true ∧ e = .returned (.agg (ksC v)) ∧ Below w.heap.size w w'

set_option maxHeartbeats 4000000 in
set_option maxRecDepth 100000 in
theorem data_none (w : World) (p : Nat) (hX : Blk w p 133 #[.slice none 0 0, .pointer none, .pointer none]) :
    Calls Tryd.prog 74 #[.pointer (some ⟨p, 0, none⟩)] w fun e w' => DataOk w w' e := by
  have hpl := hX.lt
  go_enter Tryd.func74, Tryd.ntmps74
  go_wp2_with (first
    | (refine wpList_alloc_blk (o := ⟨some 2, _, _, _, _, _⟩) _ rfl 39 rfl zeroExt zext ?_; intro w1 hR1 hb1 hz1)
    | (refine wpList_build _ rfl 39 #[(0, .const (.int .u16 51))] rfl #[(0, .int .u16 51)] rfl _ (buildT 51 _) ?_)
    | (refine wpList_alloc_blk (o := ⟨some 3, _, _, _, _, _⟩) _ rfl 39 rfl zeroExt zext ?_; intro w2 hO2 hb2 hz2)
    | (refine wpList_store_blk (y := .tmp 6) _ rfl 39 (.tmp 3) rfl w1.heap.size 39 zeroExt (ext0 51 ⟨#[]⟩ false 0 false) rfl rfl hO2 sext rfl (ext0_one _ _ _ _ _) ?_; intro w3 hO3 hg3; have x30 := (((hX.below hb1 hpl).below hb2 (by omega)).grown hg3 (by simp; omega)).at 0 (.slice none 0 0) rfl; have x31 := (((hX.below hb1 hpl).below hb2 (by omega)).grown hg3 (by simp; omega)).at 1 (.pointer none) rfl; have x32 := (((hX.below hb1 hpl).below hb2 (by omega)).grown hg3 (by simp; omega)).at 2 (.pointer none) rfl; have c10 := hO3.at 10 (.slice none 0 0) rfl; have f10 := hO3.frozen 10; have hR3 : Blk w3 w.heap.size 39 zeroExt := (hR1.below hb2 (by omega)).grown hg3 (by simp; omega); have hb3 : Below w.heap.size w w3 := hb1.trans ((hb2.mono (Nat.le_of_lt hz1)).trans ((below_grown hg3 (Nat.le_of_lt hz2)).mono (Nat.le_of_lt hz1))); have hz3 : w1.heap.size < w3.heap.size := hO3.lt; have hz4 : w.heap.size < w3.heap.size := hR3.lt)
    | fail)
  go_loopw [12] (fun iv wr => iv = .int .i64 0 ∧ wr = w3) (fun _ _ => 0)
  case atStart => exact ⟨rfl, rfl⟩
  case round =>
    obtain ⟨rfl, rfl⟩ := hrel
    go_wp2_with (first
      | (refine wpList_load_blk _ rfl 39 (.tmp 3) rfl w1.heap.size 39 (ksC (.slice none 0 0)) _ rfl hO3 Tryd.underlying39 rfl sext ?_)
      | (refine wpList_store_blk (y := .tmp 64) _ rfl 39 (.tmp 2) rfl w.heap.size 39 zeroExt (ksC (.slice none 0 0)) rfl rfl hR3 sext rfl (ksC_one _ rfl) ?_; intro w4 hR4 hg4))
    have hy : DataOk w w4 (.returned (.agg (ksC (.slice none 0 0)))) := ⟨_, rfl, rfl, hb3.trans (below_grown hg4 hb3.size)⟩
    refine bodyPost_ret (v := .agg (ksC (.slice none 0 0))) (results_blk _ rfl _ w.heap.size 39 _ _ rfl hR4 Tryd.underlying39 rfl sext) rfl hy

set_option maxHeartbeats 4000000 in
set_option maxRecDepth 100000 in
theorem data_some (w : World) (p q g : Nat) (hX : Blk w p 133 #[.slice none 0 0, .pointer none, .pointer (some ⟨q, 0, none⟩)]) (hq : w.cell? ⟨q, 0, none⟩ = some (.int .u16 g)) :
    Calls Tryd.prog 74 #[.pointer (some ⟨p, 0, none⟩)] w fun e w' => DataOk w w' e := by
  have hpl := hX.lt
  have hql : q < w.heap.size := World.block_lt_of_cell? _ _ hq
  go_enter Tryd.func74, Tryd.ntmps74
  go_wp2_with (first
    | (refine wpList_alloc_blk (o := ⟨some 2, _, _, _, _, _⟩) _ rfl 39 rfl zeroExt zext ?_; intro w1 hR1 hb1 hz1)
    | (refine wpList_build _ rfl 39 #[(0, .const (.int .u16 51))] rfl #[(0, .int .u16 51)] rfl _ (buildT 51 _) ?_)
    | (refine wpList_alloc_blk (o := ⟨some 3, _, _, _, _, _⟩) _ rfl 39 rfl zeroExt zext ?_; intro w2 hO2 hb2 hz2)
    | (refine wpList_store_blk (y := .tmp 6) _ rfl 39 (.tmp 3) rfl w1.heap.size 39 zeroExt (ext0 51 ⟨#[]⟩ false 0 false) rfl rfl hO2 sext rfl (ext0_one _ _ _ _ _) ?_; intro w3 hO3 hg3; have x30 := (((hX.below hb1 hpl).below hb2 (by omega)).grown hg3 (by simp; omega)).at 0 (.slice none 0 0) rfl; have x31 := (((hX.below hb1 hpl).below hb2 (by omega)).grown hg3 (by simp; omega)).at 1 (.pointer none) rfl; have x32 := (((hX.below hb1 hpl).below hb2 (by omega)).grown hg3 (by simp; omega)).at 2 (.pointer (some ⟨q, 0, none⟩)) rfl; have q3 : w3.cell? ⟨q, 0, none⟩ = some (.int .u16 g) := (World.cell?_of_block (hg3.block q (by omega) (by simp; omega))).trans ((hb2.cell (p := ⟨q, 0, none⟩) (by show q < w1.heap.size; omega)).trans ((hb1.cell (p := ⟨q, 0, none⟩) hql).trans hq)); have c10 := hO3.at 10 (.slice none 0 0) rfl; have f10 := hO3.frozen 10; have hR3 : Blk w3 w.heap.size 39 zeroExt := (hR1.below hb2 (by omega)).grown hg3 (by simp; omega); have hb3 : Below w.heap.size w w3 := hb1.trans ((hb2.mono (Nat.le_of_lt hz1)).trans ((below_grown hg3 (Nat.le_of_lt hz2)).mono (Nat.le_of_lt hz1))); have hz3 : w1.heap.size < w3.heap.size := hO3.lt; have hz4 : w.heap.size < w3.heap.size := hR3.lt)
    | fail)
  go_loopw [12] (fun iv wr => iv = .int .i64 0 ∧ wr = w3) (fun _ _ => 0)
  case atStart => exact ⟨rfl, rfl⟩
  case round =>
    obtain ⟨rfl, rfl⟩ := hrel
    have hOn := (hO3.set_ 10 (.slice (some ⟨wr.heap.size, 0, none⟩) 1 1)).alloc (.cells #[.int .u16 g] 30)
    have hRn := (hR3.far (p := ⟨w1.heap.size, 10, none⟩) (by show w.heap.size ≠ w1.heap.size; omega) (.slice (some ⟨wr.heap.size, 0, none⟩) 1 1)).alloc (.cells #[.int .u16 g] 30)
    have hbn : Below w.heap.size w ((wr.setCell ⟨w1.heap.size, 10, none⟩ (.slice (some ⟨wr.heap.size, 0, none⟩) 1 1)).alloc (.cells #[.int .u16 g] 30)) := (hb3.setCell (p := ⟨w1.heap.size, 10, none⟩) (Nat.le_of_lt hz1) _).alloc (by simp; omega) _
    go_wp2_with (first
      | (refine wpList_load_blk _ rfl 39 (.tmp 3) rfl w1.heap.size 39 (ksC (.slice (some ⟨wr.heap.size, 0, none⟩) 1 1)) _ rfl hOn Tryd.underlying39 rfl sext ?_)
      | (refine wpList_store_blk (y := .tmp 64) _ rfl 39 (.tmp 2) rfl w.heap.size 39 zeroExt (ksC (.slice (some ⟨wr.heap.size, 0, none⟩) 1 1)) rfl rfl hRn sext rfl (ksC_one _ rfl) ?_; intro w4 hR4 hg4))
    have hy : DataOk w w4 (.returned (.agg (ksC (.slice (some ⟨wr.heap.size, 0, none⟩) 1 1)))) := ⟨_, rfl, rfl, hbn.trans (below_grown hg4 hbn.size)⟩
    refine bodyPost_ret (v := .agg (ksC (.slice (some ⟨wr.heap.size, 0, none⟩) 1 1))) (results_blk _ rfl _ w.heap.size 39 _ _ rfl hR4 Tryd.underlying39 rfl sext) rfl hy


def ReadYes (e : Ending) : Prop := ∃ v : Value, v.oneCell' = true ∧ e = .returned (.tuple #[.agg (ksC v), .bool true])

set_option maxHeartbeats 4000000 in
set_option maxRecDepth 100000 in
theorem read_yes (s : ByteArray) (g : Nat) (w : World) (hl : s.size = 6) (ht : two s.data.toList 0 = 51) (hd : numOf ((s.data.toList.drop 2).take 2) = 2) (h4 : two (s.data.toList.drop 4) 0 = g) (hg : 0 < g ∧ g < 65536) :
    Calls Tryd.prog 34 #[.string s] w fun e w' => ReadYes e ∧ Below w.heap.size w w' := by
  have hll := toList_size s
  have HD := Lib.hid (And.intro hl (And.intro ht (And.intro hd (And.intro h4 hg))))
  have hml : s.size ≤ maxLen := by unfold maxLen; omega
  clear hl ht hd h4 hg
  go_enter Tryd.func34, Tryd.ntmps34
  go_wp2_with (first
    | (refine wpList_alloc_blk (o := ⟨some 2, _, _, _, _, _⟩) _ rfl 39 rfl zeroExt zext ?_; intro w1 hR1 hb1 hz1)
    | (refine wpList_build _ rfl 133 #[] rfl #[] rfl _ (build0X _) ?_)
    | (refine wpList_box_blk _ rfl 133 (.tmp 6) rfl #[.slice none 0 0, .pointer none, .pointer none] rfl ?_; intro w2 hX2 hb2 hz2)
    | (refine wpList_to_bytes _ rfl (.tmp 9) 9 68 5 rfl Tryd.underlying9 Tryd.underlying68 Tryd.underlying5 s rfl hml ?_; intro c w3 hc hc2 hb3 hz3 hB3))
  have hX3 := hX2.below hb3 hz2
  have hR3 : Blk w3 w.heap.size 39 zeroExt := (hR1.below hb2 hz1).below hb3 (by omega)
  have h3 : Below w.heap.size w w3 := hb1.trans ((hb2.mono (Nat.le_of_lt hz1)).trans (hb3.mono (by omega)))
  refine (unm_ok w1.heap.size w2.heap.size s.size c g s.data.toList w3 hX3 hll hB3 hz3 (by omega) hc (by have := HD.out.1; omega) (by have := HD.out.1; omega) HD.out.2.1 ⟨HD.out.1, HD.out.2.2.1⟩ HD.out.2.2.2.1 HD.out.2.2.2.2).mono ?_
  rintro e w4 ⟨rfl, v, hsel, hX4, hgr4⟩
  have hR4 := hR3.grown hgr4 (by simp; omega)
  have h4 : Below w.heap.size w w4 := h3.trans ((below_grown hgr4 (by omega)).mono (Nat.le_of_lt hz1))
  have hdat : Calls Tryd.prog 74 #[.pointer (some ⟨w1.heap.size, 0, none⟩)] w4 fun e w' => DataOk w4 w' e := by
    rcases hsel with rfl | ⟨q, rfl, hq⟩
    · exact data_none w4 w1.heap.size hX4
    · exact data_some w4 w1.heap.size q g hX4 hq
  have HDat := Lib.hid hdat
  clear hX3 hX4 hdat hsel hgr4
  go_wp2_with fail
  refine HDat.out.mono ?_
  rintro e w5 ⟨u, hu, rfl, hb5⟩
  have hR5 := hR4.below hb5 hR4.lt
  have h5 := h4.trans (hb5.mono h4.size)
  go_wp2_with (refine wpList_store_blk (y := .tmp 16) _ rfl 39 (.tmp 2) rfl w.heap.size 39 zeroExt (ksC u) rfl rfl hR5 sext rfl (ksC_one u hu) ?_; intro w6 hR6 hg6)
  have hy : ReadYes (.returned (.tuple #[.agg (ksC u), .bool true])) := ⟨u, hu, rfl⟩
  refine bodyPost_ret (v := .tuple #[.agg (ksC u), .bool true]) (results_blk_tmp _ rfl _ w.heap.size 39 _ _ (.bool true) rfl rfl hR6 Tryd.underlying39 rfl sext) rfl ⟨hy, ?_⟩
  exact h5.trans (below_grown hg6 h5.size)
end Go.Proofs.YtgjlnkciemdklaaDoor.fnKeyShareGroupCut
