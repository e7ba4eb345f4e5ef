/-
  THE WALK OF THE LAW FnRenegotiationBack: the Go text of the law, step by step: it returns true, and what was in memory stays as it was. For every argument of the law's own types.
-/
import Derived.Test.YtdkncgggjhiphaaDoorRenegA
import Derived.Test.YtdkncgggjhiphaaDoorExt
namespace Go.Proofs.YtdkncgggjhiphaaDoor.fnRenegotiationBack
open Go.ChangeShapes Go.WideShapes Go.ChangeAt Go.RowKit
open Go.ChangeMaps (open_string shut_string)
set_option linter.unusedVariables false
set_option linter.unusedSimpArgs false

set_option maxHeartbeats 4000000 in
set_option maxRecDepth 100000 in
theorem data (w : World) (p x : Nat) (hX : Blk w p 89 #[.int .u8 x]) (hx : x < 256) :
    Calls Tryd.prog 42 #[.pointer (some ⟨p, 0, none⟩)] w fun e w' => e = .returned (.agg (ext0 65281 ⟨#[]⟩ false x false)) ∧ Below w.heap.size w w' := by
  have hpl := hX.lt
  go_enter Tryd.func42, Tryd.ntmps42
  go_wp2_with (first
    | (refine wpList_alloc_blk (o := ⟨some 2, _, _, _, _, _⟩) _ rfl 46 rfl zeroExt zext ?_; intro w1 hR1 hb1 hz1)
    | (refine wpList_build _ rfl 46 #[(0, .const (.int .u16 65281))] rfl #[(0, .int .u16 65281)] rfl _ (buildT 65281 _) ?_)
    | (refine wpList_alloc_blk (o := ⟨some 3, _, _, _, _, _⟩) _ rfl 46 rfl zeroExt zext ?_; intro w2 hO2 hb2 hz2)
    | (refine wpList_store_blk (y := .tmp 4) _ rfl 46 (.tmp 3) rfl w1.heap.size 46 zeroExt (ext0 65281 ⟨#[]⟩ false 0 false) rfl rfl hO2 sext rfl (ext0_one _ _ _ _ _) ?_; intro w3 hO3 hg3; have x3 := (((hX.below hb1 hpl).below hb2 (by omega)).grown hg3 (by simp; omega)).at 0 (.int .u8 x) rfl; have c6 := hO3.at 6 (.int .u32 0) rfl; have f6 := hO3.frozen 6; have hR3 : Blk w3 w.heap.size 46 zeroExt := (hR1.below hb2 (by omega)).grown hg3 (by simp; omega); have hb3 : Below w.heap.size w w3 := hb1.trans ((hb2.mono (Nat.le_of_lt hz1)).trans ((below_grown hg3 (Nat.le_of_lt hz2)).mono (Nat.le_of_lt hz1))))
    | (refine wpList_load_blk _ rfl 46 (.tmp 3) rfl w1.heap.size 46 (ext0 65281 ⟨#[]⟩ false x false) _ rfl (hO3.set_ 6 _) Tryd.underlying46 rfl sext ?_)
    | (refine wpList_store_blk (y := .tmp 11) _ rfl 46 (.tmp 2) rfl w.heap.size 46 zeroExt (ext0 65281 ⟨#[]⟩ false x false) rfl rfl (hR3.far (p := ⟨w1.heap.size, 6, none⟩) (by show w.heap.size ≠ w1.heap.size; omega) _) sext rfl (ext0_one _ _ _ _ _) ?_; intro w4 hR4 hg4))
  refine bodyPost_ret (v := .agg (ext0 65281 ⟨#[]⟩ false x false)) (results_blk _ rfl _ w.heap.size 46 _ _ rfl hR4 Tryd.underlying46 rfl sext) rfl ⟨rfl, ?_⟩
  exact (hb3.setCell (p := ⟨w1.heap.size, 6, none⟩) (Nat.le_of_lt hz1) _).trans (below_grown hg4 (by have := hb3.size; simp; omega))

theorem build0X (w : World) : (Instr.build 89 #[]).run Tryd.prog w = .ok (.agg #[.int .u8 0]) w := by kernel_rfl

set_option maxHeartbeats 4000000 in
set_option maxRecDepth 100000 in
theorem read (l : List UInt8) (x : Nat) (w : World) (hl : l.length = 5) (h0 : two l 0 = 65281) (h2 : two l 2 = 1) (h4 : (l.getD 4 0).toNat = x) :
    Calls Tryd.prog 20 #[.string ⟨l.toArray⟩] w fun e w' => e = .returned (.tuple #[.agg (ext0 65281 ⟨#[]⟩ false x false), .bool true]) ∧ Below w.heap.size w w' := by
  have hx : x < 256 := by have := (l.getD 4 0).toNat_lt; omega
  have H4 := Lib.hid h4
  clear h4
  have hsz : (⟨l.toArray⟩ : ByteArray).size = 5 := by show l.toArray.size = 5; simp [hl]
  go_enter Tryd.func20, Tryd.ntmps20
  go_wp2_with (first
    | (refine wpList_alloc_blk (o := ⟨some 2, _, _, _, _, _⟩) _ rfl 46 rfl zeroExt zext ?_; intro w1 hR1 hb1 hz1)
    | (refine wpList_build _ rfl 89 #[] rfl #[] rfl _ (build0X _) ?_)
    | (refine wpList_box_blk _ rfl 89 (.tmp 6) rfl #[.int .u8 0] rfl ?_; intro w2 hX2 hb2 hz2)
    | (refine wpList_to_bytes _ rfl (.tmp 9) 9 28 5 rfl Tryd.underlying9 Tryd.underlying28 Tryd.underlying5 ⟨l.toArray⟩ rfl (by rw [hsz]; decide) ?_; intro c w3 hc hc2 hb3 hz3 hB3; rw [hsz] at hc ⊢))
  have hX3 := hX2.below hb3 hz2
  have hR3 : Blk w3 w.heap.size 46 zeroExt := (hR1.below hb2 hz1).below hb3 (by omega)
  refine (unm_ok w1.heap.size w2.heap.size c x l w3 hX3 hl hB3 (by omega) hc h0 h2 H4.out).mono ?_
  rintro e w4 ⟨rfl, hX4, hgr4⟩
  have hR4 := hR3.grown hgr4 (by simp; omega)
  go_wp2_with fail
  refine (data w4 w1.heap.size x hX4 hx).mono ?_
  rintro e w5 ⟨rfl, hb5⟩
  have hR5 := hR4.below hb5 hR4.lt
  go_wp2_with (refine wpList_store_blk (y := .tmp 16) _ rfl 46 (.tmp 2) rfl w.heap.size 46 zeroExt (ext0 65281 ⟨#[]⟩ false x false) rfl rfl hR5 sext rfl (ext0_one _ _ _ _ _) ?_; intro w6 hR6 hg6)
  have h4 : Below w.heap.size w w4 := hb1.trans ((hb2.mono (Nat.le_of_lt hz1)).trans ((hb3.mono (by omega)).trans ((below_grown hgr4 (by omega)).mono (Nat.le_of_lt hz1))))
  have h5 := h4.trans (hb5.mono h4.size)
  refine bodyPost_ret (v := .tuple #[.agg (ext0 65281 ⟨#[]⟩ false x false), .bool true]) (results_blk_tmp _ rfl _ w.heap.size 46 _ _ (.bool true) rfl rfl hR6 Tryd.underlying46 rfl sext) rfl ⟨rfl, ?_⟩
  exact h5.trans (below_grown hg6 h5.size)

def ren (n : Nat) : List UInt8 := bigL 65281 2 ++ (bigL 1 2 ++ [UInt8.ofNat n])

set_option maxHeartbeats 4000000 in
set_option maxRecDepth 100000 in
theorem walk (n0 : Int) (w0 : (Lit.int .u8 n0).wf = true) (w : World) (e0 : IsErr 155 w 3) (e1 : IsErr 155 w 5) (e2 : IsErr 155 w 6) :
    Calls Tryd.prog 6 #[.int .u8 n0] w fun e w' => e = .returned (.bool true) ∧ Below w.heap.size w w' := by
  clear e0 e1 e2
  have bd : 0 ≤ n0 ∧ n0 ≤ 255 := bounds_u8 w0
  obtain ⟨n, rfl⟩ := Int.eq_ofNat_of_zero_le bd.1
  have hn : n < 256 := by omega
  have e4 : (((ren n).getD 4 0).toNat : Int) = n := by
    show ((UInt8.ofNat n).toNat : Int) = n
    simp
    omega
  clear w0 bd
  go_enter Tryd.func6, Tryd.ntmps6
  go_wp2_with (refine wpList_to_string _ rfl (.tmp 7) 28 9 5 rfl Tryd.underlying28 Tryd.underlying5 Tryd.underlying9 w.heap.size 0 1 1 [UInt8.ofNat n] rfl rfl ?_ ?_)
  · intro i hi
    have hi0 : i = 0 := by simp at hi; omega
    subst hi0
    simp
    omega
  refine (framed_any 65281 ⟨#[UInt8.ofNat n]⟩ _ (by show 1 < 4294967296; omega) (by omega)).mono ?_
  rintro e w2 ⟨rfl, hb2⟩
  have hb2' : Below w.heap.size w w2 := ((Below.refl _ _).alloc (Nat.le_refl _) _).trans (hb2.mono (by simp))
  clear hb2
  go_wp2_with fail
  refine (read (ren n) n w2 rfl rfl rfl (by omega)).mono ?_
  rintro e w3 ⟨rfl, hb3⟩
  have hb3' := hb2'.trans (hb3.mono hb2'.size)
  clear hb3 hb2'
  go_wp2_with (first
    | (refine wpList_alloc_blk _ rfl 46 rfl zeroExt zext ?_; intro w4 hG4 hb4 hz4)
    | (refine wpList_store_blk _ rfl 46 (.tmp 3) (.tmp 11) rfl w3.heap.size 46 zeroExt (ext0 65281 ⟨#[]⟩ false n false) rfl rfl hG4 sext rfl (ext0_one _ _ _ _ _) ?_; intro w5 hG5 hg5)
    | (refine wpList_load_blk _ rfl 46 (.tmp 3) rfl w3.heap.size 46 (ext0 65281 ⟨#[]⟩ false n false) _ rfl hG5 Tryd.underlying46 rfl sext ?_)
    | (refine wpList_build _ rfl 46 #[(0, .const (.int .u16 65281)), (6, .tmp 17)] rfl #[(0, .int .u16 65281), (6, .int .u32 n)] rfl _ (buildTNum 65281 n _) ?_))
  have hb5 : Below w.heap.size w w5 := hb3'.trans ((hb4.mono hb3'.size).trans ((below_grown hg5 (Nat.le_of_lt hz4)).mono hb3'.size))
  refine (same_ext0 _ _ _ _ _ _).mono ?_
  rintro e w6 ⟨rfl, hb6⟩
  go_wp2_with fail
  go_ret
  exact ⟨rfl, hb5.trans (hb6.mono hb5.size)⟩
end Go.Proofs.YtdkncgggjhiphaaDoor.fnRenegotiationBack
