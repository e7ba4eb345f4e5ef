/-
  CONTRACTS of ConnectionID's Unmarshal at a whole text, of dataConnectionID and ConnectionIDRead (both ways). Condition: the text is laid out as the standard says, or cut.
-/
import Derived.Test.YtgjlnkciemdklaaDoorCid
import Derived.Test.YtgjlnkciemdklaaDoorEmpty
namespace Go.Proofs.YtgjlnkciemdklaaDoor.fnConnectionIDCut
open Go.ChangeShapes Go.WideShapes Go.ChangeAt Go.RowKit
set_option linter.unusedVariables false
set_option linter.unusedSimpArgs false

theorem grown_red {a b c : World} {row : Option Nat} {p q : Nat} (h : a.grownBy b row) (k : Red b c p q) (hp : a.heap.size ≤ p) (hq : a.heap.size ≤ q) : a.grownBy c row :=
  ⟨k.os.trans h.os, k.tape.trans h.tape, k.output.trans h.output, Nat.le_trans h.size k.size, fun i hi hne => (k.block i (Nat.lt_of_lt_of_le hi h.size) (by omega) (by omega)).trans (h.block i hi hne)⟩

/-- What Unmarshal leaves where it goes well. -/
def Kept (p m : Nat) (w w' : World) : Prop :=
  ∃ (g : Nat) (l' : List UInt8), Blk w' p 85 #[.slice (some ⟨g, 0, none⟩) m m] ∧ l'.length = m ∧ Bytes w' g 0 l' ∧ g < w'.heap.size ∧ w.grownBy w' (some p)

set_option maxHeartbeats 4000000 in
set_option maxRecDepth 100000 in
theorem unm_ok (p b n c m : Nat) (l : List UInt8) (w : World) (hX : Blk w p 85 #[.slice none 0 0]) (hl : l.length = n) (hB : Bytes w b 0 l) (hb : b < w.heap.size) (hpb : p ≠ b) (hc : n ≤ c) (hm : n < 2147483648) (hn : n = 5 + m)
    (ht : two l 0 = 54) (hd : numOf ((l.drop 2).take 2) = 1 + m) (hk : numOf ((l.drop 4).take 1) = m) :
    Calls Tryd.prog 47 #[.pointer (some ⟨p, 0, none⟩), .slice (some ⟨b, 0, none⟩) n c] w fun e w' => e = .returned .nilIface ∧ Kept p m w w' := by
  have hp := hX.lt
  have x0 := hX.at 0 (.slice none 0 0) rfl
  have HS := Lib.hid (str_new w b c l n hl hc hB hb)
  have HL := Lib.hid hl
  have HD := Lib.hid (And.intro hn (And.intro hd hk))
  have HPB := Lib.hid hpb
  clear hB hl hn hd hk hpb
  go_enter Tryd.func47, Tryd.ntmps47
  go_upto_region 3 with fail
  have hS1 := HS.out (.cells #[.int .u16 0] 30)
  have hQ1 := num_new w (.cells #[.slice (some ⟨b, 0, none⟩) n c] 152)
  have hb1 : Below w.heap.size w ((w.alloc (.cells #[.slice (some ⟨b, 0, none⟩) n c] 152)).alloc (.cells #[.int .u16 0] 30)) := ((Below.refl _ _).alloc (Nat.le_refl _) _).alloc (by simp) _
  have hX1 := hX.below hb1 hp
  have HX := Lib.hid hX
  clear HS hX x0
  generalize ((w.alloc (.cells #[.slice (some ⟨b, 0, none⟩) n c] 152)).alloc (.cells #[.int .u16 0] 30)) = w1 at *
  have HU := Lib.hid (u16_ok w.heap.size b (w.heap.size + 1) 54 l w1 hS1 (by rw [HL.out]; have := HD.out; omega) (by rw [HL.out]; exact hm) ht (.int .u16 0) (hQ1.at 0 _ rfl) (hQ1.frozen 0) (by omega) (by omega))
  have HB := Lib.hid hb1
  have hs1 := hb1.size
  have HT := Lib.hid ht
  have HX1 := Lib.hid hX1
  have HQ1 := Lib.hid hQ1
  clear hS1 hQ1 hX1 hb1 ht
  go_wp2_with (go_at_call 84; refine HU.out.mono ?_; rintro e w2 ⟨rfl, hS2, q0, hr2⟩; rw [HT.out] at q0; have hX2 := hr2.blk HX1.out (show p ≠ w.heap.size by omega) (show p ≠ w.heap.size + 1 by omega); have y0 := hX2.at 0 (.slice none 0 0) rfl)
  have hb2 : Below w.heap.size w w2 := HB.out.trans (hr2.below (Nat.le_refl _) (by omega) hs1)
  have hs2 := hb2.size
  have hq1 : w.heap.size + 1 < w2.heap.size := Nat.lt_of_lt_of_le HQ1.out.lt hr2.size
  have hp1 := hX2.lt
  have HS2 := Lib.hid hS2
  have HX2 := Lib.hid hX2
  have HB2 := Lib.hid hb2
  clear hS2 hX2 hb2 hr2
  go_region_with (go_at_call 89; refine (tv_any _ _).mono ?_; rintro e w3 ⟨rfl, hb3⟩; have q3 := (hb3.cell (p := ⟨w.heap.size + 1, 0, none⟩) hq1).trans q0; have y3 := (hb3.cell (p := ⟨p, 0, none⟩) hp1).trans y0)
  all_goals
    have hb3' : Below w.heap.size w w3 := HB2.out.drew.trans (hb3.mono hs2)
    have hS3 : Str w3 w.heap.size b (l.drop 2) := HS2.out.drew.below hb3 (by show w.heap.size < w2.heap.size; omega) (by show b < w2.heap.size; omega)
    have hs3 := hb3'.size
    have hS4 : ∀ o : Obj, Str (w3.alloc o) w.heap.size b (l.drop 2) := fun o => hS3.below ((Below.refl _ _).alloc (Nat.le_refl _) o) hS3.lt (by omega)
    have hdl : (l.drop 2).length = n - 2 := by rw [List.length_drop, HL.out]
    have hQ4 : Blk (w3.alloc (.cells #[.slice none 0 0] 152)) w3.heap.size 152 #[.slice none 0 0] := Blk.new w3 _ _
    have hl3 := hS3.lt
    have HR := Lib.hid (lp16_ok w.heap.size b w3.heap.size (1 + m) (l.drop 2) (w3.alloc (.cells #[.slice none 0 0] 152)) (hS4 _) (by have := HD.out; omega) (by omega) HD.out.2.1 (.slice none 0 0) hQ4 (by omega) (by omega))
    have HX3 := Lib.hid ((HX2.out.drew.below hb3 (show p < w2.heap.size by omega)).alloc (.cells #[.slice none 0 0] 152))
    have HB3 := Lib.hid (hb3'.alloc hs3 (.cells #[.slice none 0 0] 152))
    have hsz4 : (w3.alloc (.cells #[.slice none 0 0] 152)).heap.size = w3.heap.size + 1 := by simp
    have hpl3 : p < w3.heap.size := by omega
    clear hS3 hS4 hdl hb3 hb3' q0 y0 q3 y3 hQ4
    go_wp2_with fail
    refine HR.out.mono ?_
    rintro e w5 ⟨rfl, hS5, hE5, hr5⟩
    have hX5 := hr5.blk HX3.out (show p ≠ w.heap.size by omega) (show p ≠ w3.heap.size by omega)
    have hs5 : w3.heap.size < w5.heap.size := by (have := hr5.size; omega)
    have hb5 : Below w.heap.size w w5 := HB3.out.trans (hr5.below (Nat.le_refl _) hs3 (by omega))
    have hl5 : ((((l.drop 2).drop 2).take (1 + m))).length = 1 + m := by
      have := HL.out; have := HD.out
      simp; omega
    have hk5 : numOf (((((l.drop 2).drop 2).take (1 + m))).take 1) = m := by
      rw [← HD.out.2.2, List.drop_drop, List.take_take, Nat.min_eq_left (by omega)]
    have hm5 : m < 2147483643 := by have := HD.out.1; omega
    have HE5 := Lib.hid (And.intro hX5 (And.intro hb5 hE5))
    generalize hl5e : (((l.drop 2).drop 2).take (1 + m)) = l5 at *
    have HR8 := Lib.hid (lp8_ok w3.heap.size b w5.heap.size m l5 (w5.alloc (.cells #[.slice none 0 0] 152)) (hE5.below ((Below.refl _ _).alloc (Nat.le_refl _) _) hE5.lt (by omega)) (by omega) (by omega) hk5 (.slice none 0 0) (Blk.new w5 _ _) (by omega) (by omega))
    clear hX5 hb5 hE5 hS5 hr5 hk5
    have HL5 := Lib.hid hl5
    clear hl5 hl5e
    have hsz6 : (w5.alloc (.cells #[.slice none 0 0] 152)).heap.size = w5.heap.size + 1 := by simp
    go_wp2_with fail
    refine HR8.out.mono ?_
    rintro e w7 ⟨rfl, hE7, hC7, hr7⟩
    have hX7 := hr7.blk (HE5.out.1.alloc (.cells #[.slice none 0 0] 152)) (show p ≠ w3.heap.size by omega) (show p ≠ w5.heap.size by omega)
    have hs7 : w5.heap.size < w7.heap.size := by (have := hr7.size; omega)
    have hb7 : Below w.heap.size w w7 := (HE5.out.2.1.alloc (by omega) _).trans (hr7.below (by omega) (by omega) (by omega))
    obtain ⟨oe, ce, hEX, hce, hEB, hEb⟩ := hE7
    have e7 := hEX.at 0 _ rfl
    rw [show (l5.drop (1 + m)).length = 0 by (rw [List.length_drop, HL5.out]; omega)] at e7
    have HC7 := Lib.hid hC7
    obtain ⟨oc, cc, hCX, hcc, hcB, hcb⟩ := hC7
    have c7 := hCX.at 0 _ rfl
    rw [show ((l5.drop 1).take m).length = m by (rw [List.length_take, List.length_drop, HL5.out]; omega)] at c7
    have p7 := hX7.at 0 (.slice none 0 0) rfl
    have pf := hX7.frozen 0
    have HX7 := Lib.hid (And.intro hX7 hb7)
    clear hEX hEB hcB hCX hX7 hb7 hr7
    go_wp2_with (first
      | (go_at_call 87; refine (empty_yes _ _ _).mono ?_; rintro e w8 ⟨rfl, rfl⟩)
      | (refine wpList_make_bytes _ rfl (.tmp 30) (.tmp 30) 68 rfl w7.heap.size 5 Tryd.underlying68 infoU8 .i64 .i64 m m m rfl rfl rfl rfl (by omega) (Nat.le_refl _) ?_; intro w9 hG9 hb9 hz9; have hX9 := HX7.out.1.below hb9 (by omega); have p9 := hX9.at 0 (.slice none 0 0) rfl; have pf9 := hX9.frozen 0))
    have hlc : ((l5.drop 1).take m).length = m := by rw [List.length_take, List.length_drop, HL5.out]; omega
    have hXs := hX9.set_ 0 (.slice (some ⟨w7.heap.size, 0, none⟩) m m)
    have hb9' : Below w.heap.size w w9 := HX7.out.2.trans (hb9.mono (by omega))
    have hbl : b < w.heap.size := hb
    have hCs : Str (w9.setCell ⟨p, 0, none⟩ (.slice (some ⟨w7.heap.size, 0, none⟩) m m)) w5.heap.size b ((l5.drop 1).take m) := (HC7.out.below hb9 hs7 (by omega)).far (a := ⟨p, 0, none⟩) (by show w5.heap.size ≠ p; omega) (fun e => HPB.out e.symm) _
    have hGs : Own (w9.setCell ⟨p, 0, none⟩ (.slice (some ⟨w7.heap.size, 0, none⟩) m m)) w7.heap.size 5 w7.heap.size m (List.replicate m 0) := hG9.kept (grown_setCell (grown_refl w9 (some p)) 0 _) (by simp; omega)
    refine (copy_ok w5.heap.size b w7.heap.size m w7.heap.size m _ _ hCs (by omega) (by omega) (List.replicate m 0) (by simp) hGs (by omega) (by omega) (by simp; omega)).mono ?_
    rintro e w10 ⟨rfl, hG10, hC10, hr10⟩
    have hX10 : Blk w10 p 85 #[.slice (some ⟨w7.heap.size, 0, none⟩) m m] := hr10.blk hXs (by omega) (by omega)
    have hg10 : w.grownBy w10 (some p) := grown_red (grown_setCell (grown_below hb9' (some p)) 0 (.slice (some ⟨w7.heap.size, 0, none⟩) m m)) hr10 (by omega) (by omega)
    have hB10 := hG10.bytes
    have hg10l := hG10.base_le
    clear hXs hCs hGs hC10 hr10 hG10 hb9' hX9 hG9 e7 c7 p7 p9
    go_wp2_with fail
    go_ret
    refine ⟨rfl, w7.heap.size, _, hX10, ?_, hB10, hg10l.2, hg10⟩
    rw [List.length_take, hlc]; omega

set_option maxHeartbeats 4000000 in
set_option maxRecDepth 100000 in
theorem data (w : World) (p g m : Nat) (l : List UInt8) (hX : Blk w p 85 #[.slice (some ⟨g, 0, none⟩) m m]) (hl : l.length = m) (hB : Bytes w g 0 l) (hg : g < w.heap.size) :
    Calls Tryd.prog 48 #[.pointer (some ⟨p, 0, none⟩)] w fun e w' => e = .returned (.agg (ext0 54 ⟨l.toArray⟩ false 0 false)) ∧ Below w.heap.size w w' := by
  have hpl := hX.lt
  go_enter Tryd.func48, Tryd.ntmps48
  go_wp2_with (first
    | (refine wpList_alloc_blk (o := ⟨some 2, _, _, _, _, _⟩) _ rfl 39 rfl zeroExt zext ?_; intro w1 hR1 hb1 hz1)
    | (refine wpList_build _ rfl 39 #[(0, .const (.int .u16 54))] rfl #[(0, .int .u16 54)] rfl _ (buildT 54 _) ?_)
    | (refine wpList_alloc_blk (o := ⟨some 3, _, _, _, _, _⟩) _ rfl 39 rfl zeroExt zext ?_; intro w2 hO2 hb2 hz2)
    | (refine wpList_store_blk (y := .tmp 4) _ rfl 39 (.tmp 3) rfl w1.heap.size 39 zeroExt (ext0 54 ⟨#[]⟩ false 0 false) rfl rfl hO2 sext rfl (ext0_one _ _ _ _ _) ?_; intro w3 hO3 hg3; have x3 := (((hX.below hb1 hpl).below hb2 (by omega)).grown hg3 (by simp; omega)).at 0 (.slice (some ⟨g, 0, none⟩) m m) rfl; have hB3 : Bytes w3 g 0 l := ((hB.below hb1 hg).below hb2 (by omega)).grown hg3 (by omega) (by simp; omega); have c1 := hO3.at 1 (.string ⟨#[]⟩) rfl; have f1 := hO3.frozen 1; have hR3 : Blk w3 w.heap.size 39 zeroExt := (hR1.below hb2 (by omega)).grown hg3 (by simp; omega); have hb3 : Below w.heap.size w w3 := hb1.trans ((hb2.mono (Nat.le_of_lt hz1)).trans ((below_grown hg3 (Nat.le_of_lt hz2)).mono (Nat.le_of_lt hz1))))
    | (refine wpList_to_string _ rfl (.tmp 8) 68 9 5 rfl Tryd.underlying68 Tryd.underlying5 Tryd.underlying9 g 0 m m l rfl hl hB3 ?_)
    | (refine wpList_load_blk _ rfl 39 (.tmp 3) rfl w1.heap.size 39 (ext0 54 ⟨l.toArray⟩ false 0 false) _ rfl (hO3.set_ 1 _) Tryd.underlying39 rfl sext ?_)
    | (refine wpList_store_blk (y := .tmp 11) _ rfl 39 (.tmp 2) rfl w.heap.size 39 zeroExt (ext0 54 ⟨l.toArray⟩ false 0 false) rfl rfl (hR3.far (p := ⟨w1.heap.size, 1, none⟩) (by show w.heap.size ≠ w1.heap.size; omega) _) sext rfl (ext0_one _ _ _ _ _) ?_; intro w4 hR4 hg4))
  refine bodyPost_ret (v := .agg (ext0 54 ⟨l.toArray⟩ false 0 false)) (results_blk _ rfl _ w.heap.size 39 _ _ rfl hR4 Tryd.underlying39 rfl sext) rfl ⟨rfl, ?_⟩
  exact (hb3.setCell (p := ⟨w1.heap.size, 1, none⟩) (Nat.le_of_lt hz1) _).trans (below_grown hg4 (by have := hb3.size; simp; omega))

end Go.Proofs.YtgjlnkciemdklaaDoor.fnConnectionIDCut
