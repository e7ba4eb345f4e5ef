/-
  THE WALK OF THE LAW FnPreSharedKeySelectedBack: the Go text of the law, step by step: it returns true, and what was in memory stays as it was. For every argument of the law's own types.
-/
import Derived.Test.YtgjlnkciemdklaaDoorPskSel
namespace Go.Proofs.YtgjlnkciemdklaaDoor.fnPreSharedKeySelectedBack
open Go.ChangeShapes Go.WideShapes Go.ChangeAt Go.RowKit
open Go.ChangeMaps (open_string shut_string)
set_option linter.unusedVariables false
set_option linter.unusedSimpArgs false

theorem build0X (w : World) : (Instr.build 126 #[]).run Tryd.prog w = .ok (.agg #[.slice none 0 0, .slice none 0 0, .int .u16 0]) w := by kernel_rfl

set_option maxHeartbeats 4000000 in
set_option maxRecDepth 100000 in
theorem read (s : ByteArray) (v : Nat) (hv : v < 65536) (w : World) (hl : s.size = 6) (ht : two s.data.toList 0 = 41) (hd : numOf ((s.data.toList.drop 2).take 2) = 2) (h4 : two (s.data.toList.drop 4) 0 = v) :
    Calls Tryd.prog 31 #[.string s] w fun e w' => e = .returned (.tuple #[.agg (ext0 41 ⟨#[]⟩ false v false), .bool true]) ∧ Below w.heap.size w w' := by
  have hll := toList_size s
  have HD := Lib.hid (And.intro hl (And.intro ht (And.intro hd h4)))
  have hml : s.size ≤ maxLen := by unfold maxLen; omega
  clear hl ht hd h4
  go_enter Tryd.func31, Tryd.ntmps31
  go_wp2_with (first
    | (refine wpList_alloc_blk (o := ⟨some 2, _, _, _, _, _⟩) _ rfl 39 rfl zeroExt zext ?_; intro w1 hR1 hb1 hz1)
    | (refine wpList_build _ rfl 126 #[] rfl #[] rfl _ (build0X _) ?_)
    | (refine wpList_box_blk _ rfl 126 (.tmp 6) rfl #[.slice none 0 0, .slice none 0 0, .int .u16 0] rfl ?_; intro w2 hX2 hb2 hz2)
    | (refine wpList_to_bytes _ rfl (.tmp 9) 9 68 5 rfl Tryd.underlying9 Tryd.underlying68 Tryd.underlying5 s rfl hml ?_; intro c w3 hc hc2 hb3 hz3 hB3))
  have hX3 := hX2.below hb3 hz2
  have hR3 : Blk w3 w.heap.size 39 zeroExt := (hR1.below hb2 hz1).below hb3 (by omega)
  refine (unm_ok w1.heap.size w2.heap.size s.size c 2 v s.data.toList w3 hX3 hll hB3 hz3 (by omega) hc (by have := HD.out.1; omega) (by have := HD.out.1; omega) HD.out.2.1 ⟨HD.out.1, HD.out.2.2.1⟩ rfl HD.out.2.2.2).mono ?_
  rintro e w4 ⟨rfl, hX4, hgr4⟩
  have hR4 := hR3.grown hgr4 (by simp; omega)
  go_wp2_with fail
  refine (data w4 w1.heap.size v hv hX4).mono ?_
  rintro e w5 ⟨rfl, hb5⟩
  have hR5 := hR4.below hb5 hR4.lt
  go_wp2_with (refine wpList_store_blk (y := .tmp 16) _ rfl 39 (.tmp 2) rfl w.heap.size 39 zeroExt (ext0 41 ⟨#[]⟩ false v false) rfl rfl hR5 sext rfl (ext0_one _ _ _ _ _) ?_; intro w6 hR6 hg6)
  have h4 : Below w.heap.size w w4 := hb1.trans ((hb2.mono (Nat.le_of_lt hz1)).trans ((hb3.mono (by omega)).trans ((below_grown hgr4 (by omega)).mono (Nat.le_of_lt hz1))))
  have h5 := h4.trans (hb5.mono h4.size)
  refine bodyPost_ret (v := .tuple #[.agg (ext0 41 ⟨#[]⟩ false v false), .bool true]) (results_blk_tmp _ rfl _ w.heap.size 39 _ _ (.bool true) rfl rfl hR6 Tryd.underlying39 rfl sext) rfl ⟨rfl, ?_⟩
  exact h5.trans (below_grown hg6 h5.size)

theorem num_two (v : Nat) (h : v < 65536) : two (bigL v 2) 0 = v := by
  simp [two, bigL]
  omega

set_option maxHeartbeats 4000000 in
set_option maxRecDepth 100000 in
theorem walk (n0 : Int) (w0 : (Lit.int .u16 n0).wf = true) (w : World) (e0 : IsErr 206 w 2) (e1 : IsErr 206 w 1) (e2 : IsErr 206 w 5) (e3 : IsErr 206 w 14) :
    Calls Tryd.prog 10 #[.int .u16 n0] w fun e w' => e = .returned (.bool true) ∧ Below w.heap.size w w' := by
  clear e0 e1 e2 e3
  have bd : 0 ≤ n0 ∧ n0 ≤ 65535 := bounds_u16 w0
  obtain ⟨n, rfl⟩ := Int.eq_ofNat_of_zero_le bd.1
  have hn : n < 65536 := by omega
  have hl := bigL_length n 2
  have hsz := ex_size 41 (bigL n 2)
  have h1 := ex_two 41 (bigL n 2) (by omega)
  have h2 := ex_num 41 (bigL n 2) (by omega)
  have h3 := ex_drop 41 (bigL n 2)
  have h4 := num_two n hn
  have HB := Lib.hid (big_any n 2 w (by omega) (by omega))
  have HF := Lib.hid (fun w1 => framed_ex 41 (bigL n 2) w1 (by omega) (by omega))
  rw [hl] at hsz h2
  rw [← h3] at h4
  clear h3
  have HR := Lib.hid (fun w1 => read (ex 41 (bigL n 2)) n hn w1 hsz h1 h2 h4)
  clear w0 hsz h1 h2 h4 hl
  generalize ex 41 (bigL n 2) = r at *
  go_enter Tryd.func10, Tryd.ntmps10
  go_wp2_with fail
  refine HB.out.mono ?_
  rintro e w1 ⟨rfl, hb1⟩
  go_wp2_with fail
  refine (HF.out _).mono ?_
  rintro e w2 ⟨rfl, hb2⟩
  have hb2' : Below w.heap.size w w2 := hb1.trans (hb2.mono hb1.size)
  clear hb1 hb2
  go_wp2_with fail
  refine (HR.out _).mono ?_
  rintro e w3 ⟨rfl, hb3⟩
  have hb3' := hb2'.trans (hb3.mono hb2'.size)
  clear hb3 hb2'
  go_wp2_with (first
    | (refine wpList_alloc_blk _ rfl 39 rfl zeroExt zext ?_; intro w4 hG4 hb4 hz4)
    | (refine wpList_store_blk _ rfl 39 (.tmp 3) (.tmp 11) rfl w3.heap.size 39 zeroExt (ext0 41 ⟨#[]⟩ false n false) rfl rfl hG4 sext rfl (ext0_one _ _ _ _ _) ?_; intro w5 hG5 hg5)
    | (refine wpList_load_blk _ rfl 39 (.tmp 3) rfl w3.heap.size 39 (ext0 41 ⟨#[]⟩ false n false) _ rfl hG5 Tryd.underlying39 rfl sext ?_)
    | (refine wpList_build _ rfl 39 #[(0, .const (.int .u16 41)), (6, .tmp 17)] rfl #[(0, .int .u16 41), (6, .int .u32 n)] rfl _ (buildTNum 41 n _) ?_))
  have hb5 : Below w.heap.size w w5 := hb3'.trans ((hb4.mono hb3'.size).trans ((below_grown hg5 (Nat.le_of_lt hz4)).mono hb3'.size))
  refine (same_ext0 _ _ _ _ _ _).mono ?_
  rintro e w6 ⟨rfl, hb6⟩
  go_wp2_with fail
  go_ret
  exact ⟨rfl, hb5.trans (hb6.mono hb5.size)⟩
end Go.Proofs.YtgjlnkciemdklaaDoor.fnPreSharedKeySelectedBack
