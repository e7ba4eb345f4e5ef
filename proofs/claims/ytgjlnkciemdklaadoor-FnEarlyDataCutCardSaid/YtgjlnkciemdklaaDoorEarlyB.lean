/-
  CONTRACTS of EarlyDataIndication's Unmarshal at a whole text, of dataEarlyData and EarlyDataRead. Condition: the text is laid out as the standard says.
-/
import Derived.Test.YtgjlnkciemdklaaDoorEarlyA
import Derived.Test.YtgjlnkciemdklaaDoorRead32
namespace Go.Proofs.YtgjlnkciemdklaaDoor.fnEarlyDataCut
open Go.ChangeShapes Go.WideShapes Go.ChangeAt Go.RowKit
set_option linter.unusedVariables false
set_option linter.unusedSimpArgs false

theorem grown_red {a b c : World} {row : Option Nat} {p q : Nat} (h : a.grownBy b row) (k : Red b c p q) (hp : a.heap.size ≤ p) (hq : a.heap.size ≤ q) : a.grownBy c row :=
  ⟨k.os.trans h.os, k.tape.trans h.tape, k.output.trans h.output, Nat.le_trans h.size k.size, fun i hi hne => (k.block i (Nat.lt_of_lt_of_le hi h.size) (by omega) (by omega)).trans (h.block i hi hne)⟩

set_option maxHeartbeats 4000000 in
set_option maxRecDepth 100000 in
theorem unm_none (p b n c m : Nat) (l : List UInt8) (w : World) (hX : Blk w p 81 #[.pointer none]) (hl : l.length = n) (hB : Bytes w b 0 l) (hb : b < w.heap.size) (hpb : p ≠ b) (hc : n ≤ c) (hn : 2 ≤ n) (hm : n < 2147483648)
    (ht : two l 0 = 42) (hd : n = 4 + m ∧ numOf ((l.drop 2).take 2) = m) (h0 : m = 0) :
    Calls Tryd.prog 45 #[.pointer (some ⟨p, 0, none⟩), .slice (some ⟨b, 0, none⟩) n c] w fun e w' => e = .returned .nilIface ∧ Blk w' p 81 #[.pointer none] ∧ w.grownBy w' (some p) := by
  have HD := Lib.hid hd
  have H0 := Lib.hid h0
  clear hd hpb h0
  have hp := hX.lt
  have HS := Lib.hid (str_new w b c l n hl hc hB hb)
  have HL := Lib.hid hl
  clear hB hl
  go_enter Tryd.func45, Tryd.ntmps45
  go_upto_region 3 with fail
  have hS1 := HS.out (.cells #[.int .u16 0] 30)
  have hQ1 := num_new w (.cells #[.slice (some ⟨b, 0, none⟩) n c] 152)
  have hb1 : Below w.heap.size w ((w.alloc (.cells #[.slice (some ⟨b, 0, none⟩) n c] 152)).alloc (.cells #[.int .u16 0] 30)) := ((Below.refl _ _).alloc (Nat.le_refl _) _).alloc (by simp) _
  have hX1 := hX.below hb1 hp
  clear HS hX
  generalize ((w.alloc (.cells #[.slice (some ⟨b, 0, none⟩) n c] 152)).alloc (.cells #[.int .u16 0] 30)) = w1 at *
  have HU := Lib.hid (u16_ok w.heap.size b (w.heap.size + 1) 42 l w1.drew hS1.drew (by rw [HL.out]; exact hn) (by rw [HL.out]; exact hm) ht (.int .u16 0) (hQ1.drew.at 0 _ rfl) (hQ1.drew.frozen 0) (by omega) (by omega))
  have HB := Lib.hid hb1
  have hs1 := hb1.size
  have HT := Lib.hid ht
  have HX1 := Lib.hid hX1.drew
  have HQ1 := Lib.hid hQ1
  clear hS1 hQ1 hX1 hb1 ht
  go_region_with (first
    | (go_at_call 84; refine HU.out.mono ?_; rintro e w2 ⟨rfl, hS2, q0, hr2⟩; rw [HT.out] at q0; have hX2 := hr2.blk HX1.out (show p ≠ w.heap.size by omega) (show p ≠ w.heap.size + 1 by omega); have y0 := hX2.at 0 _ rfl)
    | (go_at_call 85; refine (tv_any _ _).mono ?_; rintro e w3 ⟨rfl, hb3⟩; have q3 := (hb3.cell (p := ⟨w.heap.size + 1, 0, none⟩) (Nat.lt_of_lt_of_le HQ1.out.lt hr2.size)).trans q0))
  all_goals
    have hb2 : Below w.heap.size w w2 := HB.out.drew.trans (hr2.below (Nat.le_refl _) (by omega) hs1)
    have hs2 := hb2.size
    have hq1 : w.heap.size + 1 < w2.heap.size := Nat.lt_of_lt_of_le HQ1.out.lt hr2.size
    have hp1 := hX2.lt
    have hb3' : Below w.heap.size w w3 := hb2.trans (hb3.mono hs2)
    have hS3 : Str w3 w.heap.size b (l.drop 2) := hS2.below hb3 (by show w.heap.size < w2.heap.size; omega) (by show b < w2.heap.size; omega)
    have hX3 := hX2.below hb3 hp1
    have hs3 := hb3'.size
    have hl3 := hS3.lt
    have hpl3 : p < w3.heap.size := by omega
    have hdl : (l.drop 2).length = n - 2 := by rw [List.length_drop, HL.out]
    have hQ4 : Blk (w3.alloc (.cells #[.slice none 0 0] 152)) w3.heap.size 152 #[.slice none 0 0] := Blk.new w3 _ _
    have HR := Lib.hid (lp16_ok w.heap.size b w3.heap.size m (l.drop 2) (w3.alloc (.cells #[.slice none 0 0] 152)) (hS3.below ((Below.refl _ _).alloc (Nat.le_refl _) _) hS3.lt (by omega)) (by have := HD.out.1; omega) (by omega) HD.out.2 (.slice none 0 0) hQ4 (by omega) (by omega))
    have HX3 := Lib.hid (hX3.alloc (.cells #[.slice none 0 0] 152))
    have HB3 := Lib.hid (hb3'.alloc hs3 (.cells #[.slice none 0 0] 152))
    have hsz4 : (w3.alloc (.cells #[.slice none 0 0] 152)).heap.size = w3.heap.size + 1 := by simp
    clear hS3 hdl hb3 hb3' q0 q3 y0 hX2 hX3 hS2 hr2 hb2 hQ4
    go_wp2_with fail
    refine HR.out.mono ?_
    rintro e w5 ⟨rfl, hS5, hE5, hr5⟩
    have hX5 := hr5.blk HX3.out (show p ≠ w.heap.size by omega) (show p ≠ w3.heap.size by omega)
    have hs5 : w3.heap.size < w5.heap.size := by (have := hr5.size; omega)
    have hb5 : Below w.heap.size w w5 := HB3.out.trans (hr5.below (Nat.le_refl _) hs3 (by omega))
    have hl5e : (((l.drop 2).drop 2).take m) = l.drop 4 := by
      have := HL.out; have := HD.out.1
      rw [List.drop_drop]
      exact List.take_of_length_le (by rw [List.length_drop]; omega)
    rw [hl5e] at hE5
    have hl5 : (l.drop 4).length = m := by
      have := HL.out; have := HD.out.1
      rw [List.length_drop]; omega
    clear hl5e HR HX3 HB3 hS5 hr5
    generalize l.drop 4 = l5 at *
    obtain ⟨oe, ce, hEX, hce, hEB, hEb⟩ := hE5
    have e5 := hEX.at 0 _ rfl
    rw [hl5, H0.out] at e5
    have HX5 := Lib.hid (And.intro hX5 hb5)
    clear hEX hEB hX5 hb5 hce hl5
    go_wp2_with (first
      | (go_at_call 87; refine (empty_yes _ _ _).mono ?_; rintro e w8 ⟨rfl, rfl⟩))
    go_ret
    exact ⟨rfl, HX5.out.1, grown_below HX5.out.2 _⟩

set_option maxHeartbeats 4000000 in
set_option maxRecDepth 100000 in
theorem unm_some (p b n c m : Nat) (l : List UInt8) (w : World) (hX : Blk w p 81 #[.pointer none]) (hl : l.length = n) (hB : Bytes w b 0 l) (hb : b < w.heap.size) (hpb : p ≠ b) (hc : n ≤ c) (hn : 2 ≤ n) (hm : n < 2147483648)
    (ht : two l 0 = 42) (hd : n = 4 + m ∧ numOf ((l.drop 2).take 2) = m) (h4 : m = 4) :
    Calls Tryd.prog 45 #[.pointer (some ⟨p, 0, none⟩), .slice (some ⟨b, 0, none⟩) n c] w fun e w' => e = .returned .nilIface ∧ ∃ (q : Nat) (v : Int), Blk w' p 81 #[.pointer (some ⟨q, 0, none⟩)] ∧ w'.cell? ⟨q, 0, none⟩ = some (.int .u32 v) ∧ w.grownBy w' (some p) := by
  have HD := Lib.hid hd
  have H4 := Lib.hid h4
  clear hd hpb h4
  have hp := hX.lt
  have HS := Lib.hid (str_new w b c l n hl hc hB hb)
  have HL := Lib.hid hl
  clear hB hl
  go_enter Tryd.func45, Tryd.ntmps45
  go_upto_region 3 with fail
  have hS1 := HS.out (.cells #[.int .u16 0] 30)
  have hQ1 := num_new w (.cells #[.slice (some ⟨b, 0, none⟩) n c] 152)
  have hb1 : Below w.heap.size w ((w.alloc (.cells #[.slice (some ⟨b, 0, none⟩) n c] 152)).alloc (.cells #[.int .u16 0] 30)) := ((Below.refl _ _).alloc (Nat.le_refl _) _).alloc (by simp) _
  have hX1 := hX.below hb1 hp
  clear HS hX
  generalize ((w.alloc (.cells #[.slice (some ⟨b, 0, none⟩) n c] 152)).alloc (.cells #[.int .u16 0] 30)) = w1 at *
  have HU := Lib.hid (u16_ok w.heap.size b (w.heap.size + 1) 42 l w1.drew hS1.drew (by rw [HL.out]; exact hn) (by rw [HL.out]; exact hm) ht (.int .u16 0) (hQ1.drew.at 0 _ rfl) (hQ1.drew.frozen 0) (by omega) (by omega))
  have HB := Lib.hid hb1
  have hs1 := hb1.size
  have HT := Lib.hid ht
  have HX1 := Lib.hid hX1.drew
  have HQ1 := Lib.hid hQ1
  clear hS1 hQ1 hX1 hb1 ht
  go_region_with (first
    | (go_at_call 84; refine HU.out.mono ?_; rintro e w2 ⟨rfl, hS2, q0, hr2⟩; rw [HT.out] at q0; have hX2 := hr2.blk HX1.out (show p ≠ w.heap.size by omega) (show p ≠ w.heap.size + 1 by omega); have y0 := hX2.at 0 _ rfl)
    | (go_at_call 85; refine (tv_any _ _).mono ?_; rintro e w3 ⟨rfl, hb3⟩; have q3 := (hb3.cell (p := ⟨w.heap.size + 1, 0, none⟩) (Nat.lt_of_lt_of_le HQ1.out.lt hr2.size)).trans q0))
  all_goals
    have hb2 : Below w.heap.size w w2 := HB.out.drew.trans (hr2.below (Nat.le_refl _) (by omega) hs1)
    have hs2 := hb2.size
    have hq1 : w.heap.size + 1 < w2.heap.size := Nat.lt_of_lt_of_le HQ1.out.lt hr2.size
    have hp1 := hX2.lt
    have hb3' : Below w.heap.size w w3 := hb2.trans (hb3.mono hs2)
    have hS3 : Str w3 w.heap.size b (l.drop 2) := hS2.below hb3 (by show w.heap.size < w2.heap.size; omega) (by show b < w2.heap.size; omega)
    have hX3 := hX2.below hb3 hp1
    have hs3 := hb3'.size
    have hl3 := hS3.lt
    have hpl3 : p < w3.heap.size := by omega
    have hdl : (l.drop 2).length = n - 2 := by rw [List.length_drop, HL.out]
    have hQ4 : Blk (w3.alloc (.cells #[.slice none 0 0] 152)) w3.heap.size 152 #[.slice none 0 0] := Blk.new w3 _ _
    have HR := Lib.hid (lp16_ok w.heap.size b w3.heap.size m (l.drop 2) (w3.alloc (.cells #[.slice none 0 0] 152)) (hS3.below ((Below.refl _ _).alloc (Nat.le_refl _) _) hS3.lt (by omega)) (by have := HD.out.1; omega) (by omega) HD.out.2 (.slice none 0 0) hQ4 (by omega) (by omega))
    have HX3 := Lib.hid (hX3.alloc (.cells #[.slice none 0 0] 152))
    have HB3 := Lib.hid (hb3'.alloc hs3 (.cells #[.slice none 0 0] 152))
    have hsz4 : (w3.alloc (.cells #[.slice none 0 0] 152)).heap.size = w3.heap.size + 1 := by simp
    clear hS3 hdl hb3 hb3' q0 q3 y0 hX2 hX3 hS2 hr2 hb2 hQ4
    go_wp2_with fail
    refine HR.out.mono ?_
    rintro e w5 ⟨rfl, hS5, hE5, hr5⟩
    have hX5 := hr5.blk HX3.out (show p ≠ w.heap.size by omega) (show p ≠ w3.heap.size by omega)
    have hs5 : w3.heap.size < w5.heap.size := by (have := hr5.size; omega)
    have hb5 : Below w.heap.size w w5 := HB3.out.trans (hr5.below (Nat.le_refl _) hs3 (by omega))
    have hl5e : (((l.drop 2).drop 2).take m) = l.drop 4 := by
      have := HL.out; have := HD.out.1
      rw [List.drop_drop]
      exact List.take_of_length_le (by rw [List.length_drop]; omega)
    rw [hl5e] at hE5
    have hl5 : (l.drop 4).length = m := by
      have := HL.out; have := HD.out.1
      rw [List.length_drop]; omega
    clear hl5e HR HX3 HB3 hS5 hr5
    generalize l.drop 4 = l5 at *
    rw [H4.out] at hl5
    have hEs := hE5
    obtain ⟨oe, ce, hEX, hce, hEB, hEb⟩ := hE5
    have e5 := hEX.at 0 _ rfl
    rw [hl5] at e5
    have hNew : Blk (w5.alloc (.cells #[.int .u32 0] 28)) w5.heap.size 28 #[.int .u32 0] := Blk.new w5 _ _
    have HU := Lib.hid (u32_ok w3.heap.size b w5.heap.size l5 (w5.alloc (.cells #[.int .u32 0] 28)) (hEs.below ((Below.refl _ _).alloc (Nat.le_refl _) _) hEs.lt (by omega)) (by omega) (by omega) (.int .u32 0) (hNew.at 0 _ rfl) (hNew.frozen 0) (by omega) (by omega))
    have HX5 := Lib.hid (And.intro (hX5.alloc (.cells #[.int .u32 0] 28)) (hb5.alloc (by omega) (.cells #[.int .u32 0] 28)))
    have hsz5 : (w5.alloc (.cells #[.int .u32 0] 28)).heap.size = w5.heap.size + 1 := by simp
    have HL5 := Lib.hid hl5
    clear hEX hEB hX5 hb5 hce hl5 hNew
    go_wp2_with (first
      | (go_at_call 87; refine (empty_no _ 4 _ (by decide) _).mono ?_; rintro e w8 ⟨rfl, rfl⟩))
    refine HU.out.mono ?_
    rintro e w7 ⟨rfl, hS7, ⟨v, hv⟩, hr7⟩
    have hX7 := hr7.blk HX5.out.1 (show p ≠ w3.heap.size by omega) (show p ≠ w5.heap.size by omega)
    have hb7 : Below w.heap.size w w7 := HX5.out.2.trans (hr7.below (by omega) (by omega) (by omega))
    obtain ⟨o7, c7, hEX7, hce7, hEB7, hEb7⟩ := hS7
    have e7 := hEX7.at 0 _ rfl
    rw [show (l5.drop 4).length = 0 by rw [List.length_drop, HL5.out]] at e7
    have x7 := hX7.at 0 (.pointer none) rfl
    have f7 := hX7.frozen 0
    have HX7 := Lib.hid (And.intro hX7 (And.intro hb7 hv))
    clear hEX7 hce7 hEB7 hr7 hX7 hb7 hv
    go_wp2_with (first
      | (go_at_call 87; refine (empty_yes _ _ _).mono ?_; rintro e w8 ⟨rfl, rfl⟩))
    go_ret
    exact ⟨rfl, w5.heap.size, v, HX7.out.1.set_ 0 _, (World.cell?_setCell_other w7 ⟨p, 0, none⟩ ⟨w5.heap.size, 0, none⟩ _ (fun e => by injection e with e; omega)).trans HX7.out.2.2, grown_setCell (grown_below HX7.out.2.1 _) 0 _⟩

set_option maxHeartbeats 4000000 in
set_option maxRecDepth 100000 in
theorem data_none (w : World) (p : Nat) (hX : Blk w p 81 #[.pointer none]) :
    Calls Tryd.prog 46 #[.pointer (some ⟨p, 0, none⟩)] w fun e w' => e = .returned (.agg (ext0 42 ⟨#[]⟩ false 0 false)) ∧ Below w.heap.size w w' := by
  have hpl := hX.lt
  go_enter Tryd.func46, Tryd.ntmps46
  go_wp2_with (first
    | (refine wpList_alloc_blk (o := ⟨some 2, _, _, _, _, _⟩) _ rfl 39 rfl zeroExt zext ?_; intro w1 hR1 hb1 hz1)
    | (refine wpList_build _ rfl 39 #[(0, .const (.int .u16 42))] rfl #[(0, .int .u16 42)] rfl _ (buildT 42 _) ?_)
    | (refine wpList_alloc_blk (o := ⟨some 3, _, _, _, _, _⟩) _ rfl 39 rfl zeroExt zext ?_; intro w2 hO2 hb2 hz2)
    | (refine wpList_store_blk (y := .tmp 4) _ rfl 39 (.tmp 3) rfl w1.heap.size 39 zeroExt (ext0 42 ⟨#[]⟩ false 0 false) rfl rfl hO2 sext rfl (ext0_one _ _ _ _ _) ?_; intro w3 hO3 hg3; have x3 := (((hX.below hb1 hpl).below hb2 (by omega)).grown hg3 (by simp; omega)).at 0 (.pointer none) rfl; have hR3 : Blk w3 w.heap.size 39 zeroExt := (hR1.below hb2 (by omega)).grown hg3 (by simp; omega); have hb3 : Below w.heap.size w w3 := hb1.trans ((hb2.mono (Nat.le_of_lt hz1)).trans ((below_grown hg3 (Nat.le_of_lt hz2)).mono (Nat.le_of_lt hz1))))
    | (refine wpList_load_blk _ rfl 39 (.tmp 3) rfl w1.heap.size 39 (ext0 42 ⟨#[]⟩ false 0 false) _ rfl hO3 Tryd.underlying39 rfl sext ?_)
    | (refine wpList_store_blk (y := .tmp 18) _ rfl 39 (.tmp 2) rfl w.heap.size 39 zeroExt (ext0 42 ⟨#[]⟩ false 0 false) rfl rfl hR3 sext rfl (ext0_one _ _ _ _ _) ?_; intro w4 hR4 hg4))
  refine bodyPost_ret (v := .agg (ext0 42 ⟨#[]⟩ false 0 false)) (results_blk _ rfl _ w.heap.size 39 _ _ rfl hR4 Tryd.underlying39 rfl sext) rfl ⟨rfl, ?_⟩
  exact hb3.trans (below_grown hg4 (by have := hb3.size; omega))

set_option maxHeartbeats 4000000 in
set_option maxRecDepth 100000 in
theorem data_some (w : World) (p q : Nat) (v : Int) (hX : Blk w p 81 #[.pointer (some ⟨q, 0, none⟩)]) (hq : w.cell? ⟨q, 0, none⟩ = some (.int .u32 v)) :
    Calls Tryd.prog 46 #[.pointer (some ⟨p, 0, none⟩)] w fun e w' => e = .returned (.agg (ext0 42 ⟨#[]⟩ false v true)) ∧ Below w.heap.size w w' := by
  have hpl := hX.lt
  have hql : q < w.heap.size := World.block_lt_of_cell? _ _ hq
  go_enter Tryd.func46, Tryd.ntmps46
  go_wp2_with (first
    | (refine wpList_alloc_blk (o := ⟨some 2, _, _, _, _, _⟩) _ rfl 39 rfl zeroExt zext ?_; intro w1 hR1 hb1 hz1)
    | (refine wpList_build _ rfl 39 #[(0, .const (.int .u16 42))] rfl #[(0, .int .u16 42)] rfl _ (buildT 42 _) ?_)
    | (refine wpList_alloc_blk (o := ⟨some 3, _, _, _, _, _⟩) _ rfl 39 rfl zeroExt zext ?_; intro w2 hO2 hb2 hz2)
    | (refine wpList_store_blk (y := .tmp 4) _ rfl 39 (.tmp 3) rfl w1.heap.size 39 zeroExt (ext0 42 ⟨#[]⟩ false 0 false) rfl rfl hO2 sext rfl (ext0_one _ _ _ _ _) ?_; intro w3 hO3 hg3; have x3 := (((hX.below hb1 hpl).below hb2 (by omega)).grown hg3 (by simp; omega)).at 0 (.pointer (some ⟨q, 0, none⟩)) rfl; have c7 := hO3.at 7 (.bool false) rfl; have f7 := hO3.frozen 7; have c6 := hO3.at 6 (.int .u32 0) rfl; have f6 := hO3.frozen 6; have v3 : w3.cell? ⟨q, 0, none⟩ = some (.int .u32 v) := (World.cell?_of_block (hg3.block q (by omega) (by simp; omega))).trans ((hb2.cell (p := ⟨q, 0, none⟩) (by show q < w1.heap.size; omega)).trans ((hb1.cell (p := ⟨q, 0, none⟩) hql).trans hq)); have hR3 : Blk w3 w.heap.size 39 zeroExt := (hR1.below hb2 (by omega)).grown hg3 (by simp; omega); have hb3 : Below w.heap.size w w3 := hb1.trans ((hb2.mono (Nat.le_of_lt hz1)).trans ((below_grown hg3 (Nat.le_of_lt hz2)).mono (Nat.le_of_lt hz1)))))
  go_region
  all_goals
    have hO4 := ((hO3.set_ 7 (.bool true)).set_ 6 (.int .u32 v)).drew
    have hR4 := ((hR3.far (p := ⟨w1.heap.size, 7, none⟩) (by show w.heap.size ≠ w1.heap.size; omega) (.bool true)).far (p := ⟨w1.heap.size, 6, none⟩) (by show w.heap.size ≠ w1.heap.size; omega) (.int .u32 v)).drew
    have hb4 := ((hb3.setCell (p := ⟨w1.heap.size, 7, none⟩) (Nat.le_of_lt hz1) (.bool true)).setCell (p := ⟨w1.heap.size, 6, none⟩) (Nat.le_of_lt hz1) (.int .u32 v)).drew
    generalize ((w3.setCell ⟨w1.heap.size, 7, none⟩ (.bool true)).setCell ⟨w1.heap.size, 6, none⟩ (.int .u32 v)).drew = w4 at *
    go_wp2_with (first
      | (refine wpList_load_blk _ rfl 39 (.tmp 3) rfl w1.heap.size 39 (ext0 42 ⟨#[]⟩ false v true) _ rfl hO4 Tryd.underlying39 rfl sext ?_)
      | (refine wpList_store_blk (y := .tmp 18) _ rfl 39 (.tmp 2) rfl w.heap.size 39 zeroExt (ext0 42 ⟨#[]⟩ false v true) rfl rfl hR4 sext rfl (ext0_one _ _ _ _ _) ?_; intro w5 hR5 hg5))
    refine bodyPost_ret (v := .agg (ext0 42 ⟨#[]⟩ false v true)) (results_blk _ rfl _ w.heap.size 39 _ _ rfl hR5 Tryd.underlying39 rfl sext) rfl ⟨rfl, ?_⟩
    exact hb4.trans (below_grown hg5 hb4.size)

/-- What a read that goes well leaves. -/
def ReadYes (e : Ending) : Prop := ∃ (v : Int) (h : Bool), e = .returned (.tuple #[.agg (ext0 42 ⟨#[]⟩ false v h), .bool true])

set_option maxHeartbeats 4000000 in
set_option maxRecDepth 100000 in
theorem read_yes (s : ByteArray) (m : Nat) (w : World) (hl : s.size = 4 + m) (hm : s.size < 2147483648) (ht : two s.data.toList 0 = 42) (hd : numOf ((s.data.toList.drop 2).take 2) = m) (h04 : m = 0 ∨ m = 4) :
    Calls Tryd.prog 19 #[.string s] w fun e w' => ReadYes e ∧ Below w.heap.size w w' := by
  have hll := toList_size s
  have HD := Lib.hid (And.intro ht (And.intro hd h04))
  have HLS := Lib.hid hl
  have hml : s.size ≤ maxLen := by unfold maxLen; omega
  clear ht hd h04 hl
  go_enter Tryd.func19, Tryd.ntmps19
  go_wp2_with (first
    | (refine wpList_alloc_blk (o := ⟨some 2, _, _, _, _, _⟩) _ rfl 39 rfl zeroExt zext ?_; intro w1 hR1 hb1 hz1)
    | (refine wpList_build _ rfl 81 #[] rfl #[] rfl _ (build0X _) ?_)
    | (refine wpList_box_blk _ rfl 81 (.tmp 6) rfl #[.pointer none] rfl ?_; intro w2 hX2 hb2 hz2)
    | (refine wpList_to_bytes _ rfl (.tmp 9) 9 68 5 rfl Tryd.underlying9 Tryd.underlying68 Tryd.underlying5 s rfl hml ?_; intro c w3 hc hc2 hb3 hz3 hB3))
  have hX3 := hX2.below hb3 hz2
  have hR3 : Blk w3 w.heap.size 39 zeroExt := (hR1.below hb2 hz1).below hb3 (by omega)
  have h3 : Below w.heap.size w w3 := hb1.trans ((hb2.mono (Nat.le_of_lt hz1)).trans (hb3.mono (by omega)))
  have key : Calls Tryd.prog 45 #[.pointer (some ⟨w1.heap.size, 0, none⟩), .slice (some ⟨w2.heap.size, 0, none⟩) s.size c] w3 fun e w' => e = .returned .nilIface ∧ w3.grownBy w' (some w1.heap.size) ∧
      (∀ wx, wx = w' → ∃ (v : Int) (h : Bool), Calls Tryd.prog 46 #[.pointer (some ⟨w1.heap.size, 0, none⟩)] wx fun e w'' => e = .returned (.agg (ext0 42 ⟨#[]⟩ false v h)) ∧ Below wx.heap.size wx w'') := by
    rcases HD.out.2.2 with h0 | h4
    · refine (unm_none w1.heap.size w2.heap.size s.size c m s.data.toList w3 hX3 hll hB3 hz3 (by omega) hc (by have := HLS.out; omega) hm HD.out.1 ⟨HLS.out, HD.out.2.1⟩ h0).mono ?_
      rintro e w4 ⟨he, hX4, hgr⟩
      exact ⟨he, hgr, fun wx hwx => ⟨0, false, by subst hwx; exact data_none _ _ hX4⟩⟩
    · refine (unm_some w1.heap.size w2.heap.size s.size c m s.data.toList w3 hX3 hll hB3 hz3 (by omega) hc (by have := HLS.out; omega) hm HD.out.1 ⟨HLS.out, HD.out.2.1⟩ h4).mono ?_
      rintro e w4 ⟨he, q, v, hX4, hv4, hgr⟩
      exact ⟨he, hgr, fun wx hwx => ⟨v, true, by subst hwx; exact data_some _ _ q v hX4 hv4⟩⟩
  refine key.mono ?_
  rintro e w4 ⟨rfl, hgr4, hdat⟩
  obtain ⟨v, h, hdat⟩ := hdat w4 rfl
  have hR4 := hR3.grown hgr4 (by simp; omega)
  have h4 : Below w.heap.size w w4 := h3.trans ((below_grown hgr4 (by omega)).mono (Nat.le_of_lt hz1))
  have HDat := Lib.hid hdat
  clear key hX3 hdat
  go_wp2_with fail
  refine HDat.out.mono ?_
  rintro e w5 ⟨rfl, hb5⟩
  have hR5 := hR4.below hb5 hR4.lt
  have h5 := h4.trans (hb5.mono h4.size)
  go_wp2_with (refine wpList_store_blk (y := .tmp 16) _ rfl 39 (.tmp 2) rfl w.heap.size 39 zeroExt (ext0 42 ⟨#[]⟩ false v h) rfl rfl hR5 sext rfl (ext0_one _ _ _ _ _) ?_; intro w6 hR6 hg6)
  have hy : ReadYes (.returned (.tuple #[.agg (ext0 42 ⟨#[]⟩ false v h), .bool true])) := ⟨_, _, rfl⟩
  refine bodyPost_ret (v := .tuple #[.agg (ext0 42 ⟨#[]⟩ false v h), .bool true]) (results_blk_tmp _ rfl _ w.heap.size 39 _ _ (.bool true) rfl rfl hR6 Tryd.underlying39 rfl sext) rfl ⟨hy, ?_⟩
  exact h5.trans (below_grown hg6 h5.size)
end Go.Proofs.YtgjlnkciemdklaaDoor.fnEarlyDataCut
