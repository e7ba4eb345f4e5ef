/-
  CONTRACTS of KeyShare's Unmarshal at a selected group, of dataKeyShare and KeyShareRead. Condition: the text is laid out as the standard says; the group is not 0.
-/
import Derived.Test.YtgjlnkciemdklaaDoorKsA
import Derived.Test.YtgjlnkciemdklaaDoorMapB
namespace Go.Proofs.YtgjlnkciemdklaaDoor.fnKeyShareGroupCut
open Go.ChangeShapes Go.WideShapes Go.ChangeAt Go.RowKit
set_option linter.unusedVariables false
set_option linter.unusedSimpArgs false

theorem grown_red {a b c : World} {row : Option Nat} {p q : Nat} (h : a.grownBy b row) (k : Red b c p q) (hp : a.heap.size ≤ p) (hq : a.heap.size ≤ q) : a.grownBy c row :=
  ⟨k.os.trans h.os, k.tape.trans h.tape, k.output.trans h.output, Nat.le_trans h.size k.size, fun i hi hne => (k.block i (Nat.lt_of_lt_of_le hi h.size) (by omega) (by omega)).trans (h.block i hi hne)⟩

theorem wf16 (g : Nat) (h : g < 65536) : (Lit.int .u16 (g : Int)).wf = true := Go.WalkArith.wf_u16 ⟨by omega, by omega⟩
def Sel (g : Nat) (w : World) (v : Value) : Prop := v = .pointer none ∨ ∃ q, v = .pointer (some ⟨q, 0, none⟩) ∧ w.cell? ⟨q, 0, none⟩ = some (.int .u16 g)
def KsOk (p g : Nat) (w w' : World) (e : Ending) : Prop := e = .returned .nilIface ∧ ∃ v, Sel g w' v ∧ Blk w' p 133 #[.slice none 0 0, .pointer none, v] ∧ w.grownBy w' (some p)

set_option maxHeartbeats 8000000 in
set_option maxRecDepth 100000 in
theorem unm_ok (p b n c g : Nat) (l : List UInt8) (w : World) (hX : Blk w p 133 #[.slice none 0 0, .pointer none, .pointer none]) (hl : l.length = n) (hB : Bytes w b 0 l) (hb : b < w.heap.size) (hpb : p ≠ b) (hc : n ≤ c) (hn : 2 ≤ n) (hm : n < 2147483648)
    (ht : two l 0 = 51) (hd : n = 6 ∧ numOf ((l.drop 2).take 2) = 2) (hg : two (l.drop 4) 0 = g) (hg0 : 0 < g ∧ g < 65536) :
    Calls Tryd.prog 73 #[.pointer (some ⟨p, 0, none⟩), .slice (some ⟨b, 0, none⟩) n c] w fun e w' => KsOk p g w w' e := by
  have HD := Lib.hid hd
  have HG := Lib.hid hg
  have HG0 := Lib.hid hg0
  have HPB := Lib.hid hpb
  clear hd hg hg0 hpb
  have hp := hX.lt
  have HS := Lib.hid (str_new3 w b c l n hl hc hB hb)
  have HL := Lib.hid hl
  clear hB hl
  go_enter Tryd.func73, Tryd.ntmps73
  go_upto_region 4 with fail
  have hS1 := HS.out
  have hQ1 := num_new3 w (.cells #[.slice (some ⟨b, 0, none⟩) n c] 152)
  have hE1 := ext_new3 w (.cells #[.slice (some ⟨b, 0, none⟩) n c] 152)
  have hb1 : Below w.heap.size w (((w.alloc (.cells #[.slice (some ⟨b, 0, none⟩) n c] 152)).alloc (.cells #[.slice none 0 0] 152)).alloc (.cells #[.int .u16 0] 30)) := (((Below.refl _ _).alloc (Nat.le_refl _) _).alloc (by simp) _).alloc (by simp; omega) _
  have hX1 := hX.below hb1 hp
  clear HS hX
  generalize (((w.alloc (.cells #[.slice (some ⟨b, 0, none⟩) n c] 152)).alloc (.cells #[.slice none 0 0] 152)).alloc (.cells #[.int .u16 0] 30)) = w1 at *
  have HU := Lib.hid (u16_ok w.heap.size b (w.heap.size + 2) 51 l w1.drew hS1.drew (by rw [HL.out]; exact hn) (by rw [HL.out]; exact hm) ht (.int .u16 0) (hQ1.drew.at 0 _ rfl) (hQ1.drew.frozen 0) (by omega) (by omega))
  have HB := Lib.hid hb1
  have hs1 := hb1.size
  have HT := Lib.hid ht
  have HX1 := Lib.hid hX1.drew
  have HQ1 := Lib.hid hQ1
  have HE1 := Lib.hid hE1.drew
  have hel := hE1.lt
  clear hE1
  clear hS1 hQ1 hX1 hb1 ht
  go_region_with (first
    | (go_at_call 84; refine HU.out.mono ?_; rintro e w2 ⟨rfl, hS2, q0, hr2⟩; rw [HT.out] at q0; have hX2 := hr2.blk HX1.out (show p ≠ w.heap.size by omega) (show p ≠ w.heap.size + 2 by omega); have y0 := hX2.at 0 _ rfl; have y1 := hX2.at 1 _ rfl; have y2 := hX2.at 2 _ rfl)
    | (go_at_call 102; refine (tv_any _ _ _ _).mono ?_; rintro e w3 ⟨rfl, hb3⟩; have q3 := (hb3.cell (p := ⟨w.heap.size + 2, 0, none⟩) (Nat.lt_of_lt_of_le HQ1.out.lt hr2.size)).trans q0))
  all_goals
    have hb2 : Below w.heap.size w w2 := HB.out.drew.trans (hr2.below (Nat.le_refl _) (by omega) hs1)
    have hs2 := hb2.size
    have hq1 : w.heap.size + 2 < w2.heap.size := Nat.lt_of_lt_of_le HQ1.out.lt hr2.size
    have hp1 := hX2.lt
    have hb3' : Below w.heap.size w w3 := hb2.trans (hb3.mono hs2)
    have hS3 : Str w3 w.heap.size b (l.drop 2) := hS2.below hb3 (by show w.heap.size < w2.heap.size; omega) (by show b < w2.heap.size; omega)
    have hX3 := hX2.below hb3 hp1
    have hE3 := (hr2.blk HE1.out (show w.heap.size + 1 ≠ w.heap.size by omega) (show w.heap.size + 1 ≠ w.heap.size + 2 by omega)).below hb3 (by omega)
    have hs3 := hb3'.size
    have hl3 := hS3.lt
    have hpl3 : p < w3.heap.size := by omega
    have hdl : (l.drop 2).length = n - 2 := by rw [List.length_drop, HL.out]
    have HR := Lib.hid (lp16_ok w.heap.size b (w.heap.size + 1) 2 (l.drop 2) w3 hS3 (by have := HD.out.1; omega) (by omega) HD.out.2 (.slice none 0 0) hE3 (by omega) (by omega))
    have HX3 := Lib.hid (And.intro hX3 hb3')
    clear hS3 hdl hb3 hb3' q0 q3 y0 y1 y2 hX2 hX3 hE3 hS2 hr2 hb2
    go_wp2_with fail
    refine HR.out.mono ?_
    rintro e w5 ⟨rfl, hS5, hE5, hr5⟩
    have hX5 := hr5.blk HX3.out.1 (show p ≠ w.heap.size by omega) (show p ≠ w.heap.size + 1 by omega)
    have hs5 : w3.heap.size ≤ w5.heap.size := hr5.size
    have hb5 : Below w.heap.size w w5 := HX3.out.2.trans (hr5.below (Nat.le_refl _) (by omega) hs3)
    have hl5e : (((l.drop 2).drop 2).take 2) = l.drop 4 := by
      have := HL.out; have := HD.out.1
      rw [List.drop_drop]
      exact List.take_of_length_le (by rw [List.length_drop]; omega)
    rw [hl5e] at hE5
    have hl5 : (l.drop 4).length = 2 := by
      have := HL.out; have := HD.out.1
      rw [List.length_drop]; omega
    clear hl5e HR HX3 hS5 hr5
    generalize l.drop 4 = l5 at *
    have HE5 := Lib.hid hE5
    obtain ⟨oe, ce, hEX, hce, hEB, hEb⟩ := hE5
    have e5 := hEX.at 0 _ rfl
    rw [hl5] at e5
    have x0 := hX5.at 0 (.slice none 0 0) rfl
    have x1 := hX5.at 1 (.pointer none) rfl
    have x2 := hX5.at 2 (.pointer none) rfl
    have f0 := hX5.frozen 0
    have f1 := hX5.frozen 1
    have f2 := hX5.frozen 2
    have HX5 := Lib.hid (And.intro hX5 (And.intro hb5 hl5))
    clear hEX hce hEB hX5 hb5 hl5
    go_wp2_with fail
    refine (empty_no _ 2 _ (by decide) _).mono ?_
    rintro e w6 ⟨rfl, rfl⟩
    go_wp2_with fail
    obtain ⟨oq, cq, hQX, hQc, hQB, hQb⟩ := HE5.out
    have hX5 := HX5.out.1
    have hl5 := HX5.out.2.2
    rw [hl5] at hQX hQc
    have hsame : oq = oe ∧ cq = ce := by
      have h1 := hQX.at 0 _ rfl
      rw [e5] at h1
      injection h1 with h1
      injection h1 with h1 h2 h3
      injection h1 with h1
      injection h1 with h1 h4 h5
      exact ⟨h4.symm, h3.symm⟩
    obtain ⟨rfl, rfl⟩ := hsame
    have hz0 : (((w5.setCell ⟨p, 0, none⟩ (.slice none 0 0)).setCell ⟨p, 1, none⟩ (.pointer none)).setCell ⟨p, 2, none⟩ (.pointer none)).heap.size = w5.heap.size := by simp
    have hX6 := ((((hX5.set_ 0 (.slice none 0 0)).set_ 1 (.pointer none)).set_ 2 (.pointer none)).alloc (.cells #[.slice (some ⟨b, oq, none⟩) 2 cq] 152)).alloc (.cells #[.int .u16 0] 30)
    have hE6 := ((HE5.out.far (a := ⟨p, 0, none⟩) (by show w.heap.size + 1 ≠ p; omega) (fun e => HPB.out e.symm) (.slice none 0 0)).far (a := ⟨p, 1, none⟩) (by show w.heap.size + 1 ≠ p; omega) (fun e => HPB.out e.symm) (.pointer none)).far (a := ⟨p, 2, none⟩) (by show w.heap.size + 1 ≠ p; omega) (fun e => HPB.out e.symm) (.pointer none)
    have hB6 := ((hQB.setCell (p := ⟨p, 0, none⟩) (fun e => HPB.out e.symm) (.slice none 0 0)).setCell (p := ⟨p, 1, none⟩) (fun e => HPB.out e.symm) (.pointer none)).setCell (p := ⟨p, 2, none⟩) (fun e => HPB.out e.symm) (.pointer none)
    have hg6 : w.grownBy (((w5.setCell ⟨p, 0, none⟩ (.slice none 0 0)).setCell ⟨p, 1, none⟩ (.pointer none)).setCell ⟨p, 2, none⟩ (.pointer none)) (some p) := grown_setCell (grown_setCell (grown_setCell (grown_below HX5.out.2.1 (some p)) 0 (.slice none 0 0)) 1 (.pointer none)) 2 (.pointer none)
    generalize (((w5.setCell ⟨p, 0, none⟩ (.slice none 0 0)).setCell ⟨p, 1, none⟩ (.pointer none)).setCell ⟨p, 2, none⟩ (.pointer none)) = W0 at *
    have hsz : w.heap.size + 1 < w5.heap.size := HE5.out.lt
    have hbA : Below W0.heap.size W0 ((W0.alloc (.cells #[.slice (some ⟨b, oq, none⟩) 2 cq] 152)).alloc (.cells #[.int .u16 0] 30)) := ((Below.refl _ _).alloc (Nat.le_refl _) _).alloc (by simp) _
    have hPA : Str ((W0.alloc (.cells #[.slice (some ⟨b, oq, none⟩) 2 cq] 152)).alloc (.cells #[.int .u16 0] 30)) W0.heap.size b l5 := by
      refine ⟨oq, cq, ?_, by rw [hl5]; exact hQc, hB6.below hbA (by omega), by omega⟩
      rw [hl5]
      exact (Blk.new W0 _ _).alloc _
    have hVA := num_new W0 (.cells #[.slice (some ⟨b, oq, none⟩) 2 cq] 152)
    have hEA := hE6.below hbA hE6.lt (by omega)
    have hgA : w.grownBy ((W0.alloc (.cells #[.slice (some ⟨b, oq, none⟩) 2 cq] 152)).alloc (.cells #[.int .u16 0] 30)) (some p) := grown_trans hg6 (grown_below hbA _)
    have hszA : ((W0.alloc (.cells #[.slice (some ⟨b, oq, none⟩) 2 cq] 152)).alloc (.cells #[.int .u16 0] 30)).heap.size = W0.heap.size + 2 := by simp
    clear hX5 hE6 hB6 hg6 hbA hQX hQc hQB e5 x0 x1 x2 f0 f1 f2
    rw [hz0] at hPA hVA hszA
    clear hz0
    generalize ((W0.alloc (.cells #[.slice (some ⟨b, oq, none⟩) 2 cq] 152)).alloc (.cells #[.int .u16 0] 30)) = WA at *
    have HUA := Lib.hid (u16_ok w5.heap.size b (w5.heap.size + 1) g l5 WA hPA (by omega) (by omega) HG.out (.int .u16 0) (hVA.at 0 _ rfl) (hVA.frozen 0) (by omega) (by omega))
    have HA := Lib.hid (And.intro hX6 (And.intro hEA (And.intro hgA hl5)))
    clear hX6 hEA hgA hPA hVA hl5
    refine HUA.out.mono ?_
    rintro e wB ⟨rfl, hSB, hvB, hrB⟩
    rw [HG.out] at hvB
    have hXB := hrB.blk HA.out.1 (show p ≠ w5.heap.size by omega) (show p ≠ w5.heap.size + 1 by omega)
    have hEB := HA.out.2.1.red hrB (show b < WA.heap.size by omega) (show w.heap.size + 1 ≠ w5.heap.size by omega) (show w.heap.size + 1 ≠ w5.heap.size + 1 by omega) (show b ≠ w5.heap.size by omega) (show b ≠ w5.heap.size + 1 by omega)
    have hgB := grown_red HA.out.2.2.1 hrB (by omega) (by omega)
    have hszB : w5.heap.size + 2 ≤ wB.heap.size := by have := hrB.size; omega
    obtain ⟨oB, cB, hBX, hBc, hBB, hBb⟩ := hSB
    have b7 := hBX.at 0 _ rfl
    rw [show (l5.drop 2).length = 0 by rw [List.length_drop, HA.out.2.2.2]] at b7
    have HSB := Lib.hid hEB
    obtain ⟨oC, cC, hCX, hCc, hCB, hCb⟩ := hEB
    have c7 := hCX.at 0 _ rfl
    rw [HA.out.2.2.2] at c7
    have hgw : wrap64 (g : Int) = g := by
      have := HG0.out
      unfold wrap64
      omega
    have hgi : ((g : Int) == 0) = false := by
      have := HG0.out
      simp
      omega
    have hbB : b < wB.heap.size := by omega
    have HB7 := Lib.hid (And.intro hXB (And.intro hgB hszB))
    clear hBX hBc hBB hCX hCc hCB hrB hXB hgB
    go_wp2_with fail
    have hbn : Below wB.heap.size wB (wB.alloc (.cells #[.int .u16 0] 30)) := (Below.refl _ _).alloc (Nat.le_refl _) _
    have hNew := Blk.new wB 30 #[.int .u16 0]
    have hSn := HSB.out.below hbn (by omega) hbB
    have hszn : (wB.alloc (.cells #[.int .u16 0] 30)).heap.size = wB.heap.size + 1 := by simp
    have hXn := HB7.out.1.alloc (.cells #[.int .u16 0] 30)
    have hgn : w.grownBy (wB.alloc (.cells #[.int .u16 0] 30)) (some p) := grown_trans HB7.out.2.1 (grown_below hbn _)
    have HUC := Lib.hid (u16_ok (w.heap.size + 1) b wB.heap.size g l5 (wB.alloc (.cells #[.int .u16 0] 30)) hSn (by rw [HA.out.2.2.2]; omega) (by rw [HA.out.2.2.2]; omega) HG.out (.int .u16 0) (hNew.at 0 _ rfl) (hNew.frozen 0) (by omega) (by omega))
    have HN := Lib.hid (And.intro hXn (And.intro hgn hszn))
    clear hbn hNew hSn hszn hXn hgn b7 c7 hvB
    refine HUC.out.mono ?_
    rintro e wC ⟨rfl, hSC, hvC, hrC⟩
    rw [HG.out] at hvC
    have hXC := hrC.blk HN.out.1 (show p ≠ w.heap.size + 1 by omega) (show p ≠ wB.heap.size by omega)
    have hgC := grown_red HN.out.2.1 hrC (by omega) (by omega)
    have hszC : wB.heap.size + 1 ≤ wC.heap.size := by have := hrC.size; have := HN.out.2.2; omega
    have HC := Lib.hid (And.intro hXC hgC)
    clear hSC hrC hXC hgC
    go_upto_region 37 with fail
    have hbd : Below wC.heap.size wC (wC.alloc (.cells #[.int .u16 g] 180)) := (Below.refl _ _).alloc (Nat.le_refl _) _
    have hNd := Blk.new wC 180 #[.int .u16 g]
    have hXd := HC.out.1.alloc (.cells #[.int .u16 g] 180)
    have hgd : w.grownBy (wC.alloc (.cells #[.int .u16 g] 180)) (some p) := grown_trans HC.out.2 (grown_below hbd _)
    have hvd := hNd.at 0 (.int .u16 g) rfl
    have hszd : wC.heap.size < (wC.alloc (.cells #[.int .u16 g] 180)).heap.size := by simp
    have hpd : p < (wC.alloc (.cells #[.int .u16 g] 180)).heap.size := hXd.lt
    have HDd := Lib.hid (And.intro hXd hgd)
    have hwf : (Lit.int .u16 (g : Int)).wf = true := wf16 g HG0.out.2
    clear hbd hNd hXd hgd hvC
    generalize wC.alloc (.cells #[.int .u16 g] 180) = wD at *
    go_region_with (go_at_call 104; refine (curves _).mono ?_; rintro e wE ⟨rfl, ⟨nE, dE, hown⟩, hbE⟩; obtain ⟨cE, hrun0⟩ := look_bool hown law16 Tryd.underlying184 Tryd.underlying4 (zeroB _) (key16 g hwf); have hrun : (Instr.lookup 184 (.map (some wD.heap.size)) (.int .u16 g) false).run Tryd.prog wE = .ok (.bool cE) wE := hrun0; have hvE := (hbE.cell (p := ⟨wC.heap.size, 0, none⟩) hszd).trans hvd)
    all_goals
      have hXE := HDd.out.1.drew.below hbE hpd
      have hgE : w.grownBy wE (some p) := grown_trans (grown_drew HDd.out.2) (grown_below hbE _)
      have x2 := hXE.at 2 (.pointer none) rfl
      have f2 := hXE.frozen 2
      have hpc : p ≠ wC.heap.size := by omega
      have HE := Lib.hid (And.intro hXE hgE)
      clear hXE hgE hown hbE
      cases cE with
      | true =>
        go_wp2_with fail
        go_ret
        exact ⟨rfl, _, Or.inr ⟨wC.heap.size, rfl, (World.cell?_setCell_other wE ⟨p, 2, none⟩ ⟨wC.heap.size, 0, none⟩ _ (fun e => hpc (by injection e with e))).trans hvE⟩, HE.out.1.set_ 2 _, grown_setCell HE.out.2 2 _⟩
      | false =>
        go_wp2_with fail
        go_ret
        exact ⟨rfl, _, Or.inl rfl, HE.out.1, HE.out.2⟩
end Go.Proofs.YtgjlnkciemdklaaDoor.fnKeyShareGroupCut
