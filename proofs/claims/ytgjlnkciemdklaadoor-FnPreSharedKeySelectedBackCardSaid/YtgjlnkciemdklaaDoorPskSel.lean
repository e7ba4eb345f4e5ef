/-
  CONTRACTS of the extension PreSharedKeyRead's Unmarshal at a selected identity; of dataPreSharedKey, PreSharedKeyRead.
-/
import Derived.Test.YtgjlnkciemdklaaDoorRead
import Derived.Test.YtgjlnkciemdklaaDoorEmpty
import Derived.Test.YtgjlnkciemdklaaDoorFramed
import Derived.Test.YtgjlnkciemdklaaDoorExt
import Derived.Deep.RegionWith
import Derived.Deep.QuietTactic
import Derived.BigQuiet
import Derived.Deep.Cut
namespace Go.Proofs.YtgjlnkciemdklaaDoor.fnPreSharedKeySelectedBack
open Go.ChangeShapes Go.WideShapes Go.ChangeAt Go.RowKit
set_option linter.unusedVariables false
set_option linter.unusedSimpArgs false
theorem tv_any (v0 v1 v2 : Value) (w : World) : Calls Tryd.prog 101 #[.agg #[v0, v1, v2]] w fun e w' => e = .returned (.int .u16 41) ∧ Below w.heap.size w w' := by
  go_enter Tryd.func101, Tryd.ntmps101
  go_wp2
  go_ret
  exact ⟨rfl, (Below.refl _ _).alloc (Nat.le_refl _) _⟩

theorem str_new (w : World) (b c : Nat) (l : List UInt8) (n : Nat) (hn : l.length = n) (hc : n ≤ c) (hB : Bytes w b 0 l) (hb : b < w.heap.size) (o : Obj) :
    Str ((w.alloc (.cells #[.slice (some ⟨b, 0, none⟩) n c] 152)).alloc o) w.heap.size b l := by
  subst hn
  exact ⟨0, c, (Blk.new w _ _).alloc _, hc, (hB.alloc hb _).alloc (by simp; omega) _, by omega⟩
theorem num_new (w : World) (o : Obj) : Blk ((w.alloc o).alloc (.cells #[.int .u16 0] 30)) (w.heap.size + 1) 30 #[.int .u16 0] := by
  have := Blk.new (w.alloc o) 30 #[.int .u16 0]
  simpa using this


theorem grown_red {a b c : World} {row : Option Nat} {p q : Nat} (h : a.grownBy b row) (k : Red b c p q) (hp : a.heap.size ≤ p) (hq : a.heap.size ≤ q) : a.grownBy c row :=
  ⟨k.os.trans h.os, k.tape.trans h.tape, k.output.trans h.output, Nat.le_trans h.size k.size, fun i hi hne => (k.block i (Nat.lt_of_lt_of_le hi h.size) (by omega) (by omega)).trans (h.block i hi hne)⟩

set_option maxHeartbeats 4000000 in
set_option maxRecDepth 100000 in
theorem unm_ok (p b n c m v : Nat) (l : List UInt8) (w : World) (hX : Blk w p 126 #[.slice none 0 0, .slice none 0 0, .int .u16 0]) (hl : l.length = n) (hB : Bytes w b 0 l) (hb : b < w.heap.size) (hpb : p ≠ b) (hc : n ≤ c) (hn : 2 ≤ n) (hm : n < 2147483648)
    (ht : two l 0 = 41) (hd : n = 4 + m ∧ numOf ((l.drop 2).take 2) = m) (h2 : m = 2) (hv : two (l.drop 4) 0 = v) :
    Calls Tryd.prog 71 #[.pointer (some ⟨p, 0, none⟩), .slice (some ⟨b, 0, none⟩) n c] w fun e w' => e = .returned .nilIface ∧ Blk w' p 126 #[.slice none 0 0, .slice none 0 0, .int .u16 v] ∧ w.grownBy w' (some p) := by
  have HD := Lib.hid hd
  have H2 := Lib.hid h2
  have HV := Lib.hid hv
  clear hd hpb h2 hv
  have hp := hX.lt
  have HS := Lib.hid (str_new w b c l n hl hc hB hb)
  have HL := Lib.hid hl
  clear hB hl
  go_enter Tryd.func71, Tryd.ntmps71
  go_upto_region 3 with fail
  have hS1 := HS.out (.cells #[.int .u16 0] 30)
  have hQ1 := num_new w (.cells #[.slice (some ⟨b, 0, none⟩) n c] 152)
  have hb1 : Below w.heap.size w ((w.alloc (.cells #[.slice (some ⟨b, 0, none⟩) n c] 152)).alloc (.cells #[.int .u16 0] 30)) := ((Below.refl _ _).alloc (Nat.le_refl _) _).alloc (by simp) _
  have hX1 := hX.below hb1 hp
  clear HS hX
  generalize ((w.alloc (.cells #[.slice (some ⟨b, 0, none⟩) n c] 152)).alloc (.cells #[.int .u16 0] 30)) = w1 at *
  have HU := Lib.hid (u16_ok w.heap.size b (w.heap.size + 1) 41 l w1.drew hS1.drew (by rw [HL.out]; exact hn) (by rw [HL.out]; exact hm) ht (.int .u16 0) (hQ1.drew.at 0 _ rfl) (hQ1.drew.frozen 0) (by omega) (by omega))
  have HB := Lib.hid hb1
  have hs1 := hb1.size
  have HT := Lib.hid ht
  have HX1 := Lib.hid hX1.drew
  have HQ1 := Lib.hid hQ1
  clear hS1 hQ1 hX1 hb1 ht
  go_region_with (first
    | (go_at_call 84; refine HU.out.mono ?_; rintro e w2 ⟨rfl, hS2, q0, hr2⟩; rw [HT.out] at q0; have hX2 := hr2.blk HX1.out (show p ≠ w.heap.size by omega) (show p ≠ w.heap.size + 1 by omega); have y0 := hX2.at 0 _ rfl; have y1 := hX2.at 1 _ rfl; have y2 := hX2.at 2 _ rfl)
    | (go_at_call 101; refine (tv_any _ _ _ _).mono ?_; rintro e w3 ⟨rfl, hb3⟩; have q3 := (hb3.cell (p := ⟨w.heap.size + 1, 0, none⟩) (Nat.lt_of_lt_of_le HQ1.out.lt hr2.size)).trans q0))
  all_goals
    have hb2 : Below w.heap.size w w2 := HB.out.drew.trans (hr2.below (Nat.le_refl _) (by omega) hs1)
    have hs2 := hb2.size
    have hq1 : w.heap.size + 1 < w2.heap.size := Nat.lt_of_lt_of_le HQ1.out.lt hr2.size
    have hp1 := hX2.lt
    have hb3' : Below w.heap.size w w3 := hb2.trans (hb3.mono hs2)
    have hS3 : Str w3 w.heap.size b (l.drop 2) := hS2.below hb3 (by show w.heap.size < w2.heap.size; omega) (by show b < w2.heap.size; omega)
    have hX3 := hX2.below hb3 hp1
    have hs3 := hb3'.size
    have hl3 := hS3.lt
    have hpl3 : p < w3.heap.size := by omega
    have hdl : (l.drop 2).length = n - 2 := by rw [List.length_drop, HL.out]
    have hQ4 : Blk (w3.alloc (.cells #[.slice none 0 0] 152)) w3.heap.size 152 #[.slice none 0 0] := Blk.new w3 _ _
    have HR := Lib.hid (lp16_ok w.heap.size b w3.heap.size m (l.drop 2) (w3.alloc (.cells #[.slice none 0 0] 152)) (hS3.below ((Below.refl _ _).alloc (Nat.le_refl _) _) hS3.lt (by omega)) (by have := HD.out.1; omega) (by omega) HD.out.2 (.slice none 0 0) hQ4 (by omega) (by omega))
    have HX3 := Lib.hid (hX3.alloc (.cells #[.slice none 0 0] 152))
    have HB3 := Lib.hid (hb3'.alloc hs3 (.cells #[.slice none 0 0] 152))
    have hsz4 : (w3.alloc (.cells #[.slice none 0 0] 152)).heap.size = w3.heap.size + 1 := by simp
    clear hS3 hdl hb3 hb3' q0 q3 y0 y1 y2 hX2 hX3 hS2 hr2 hb2 hQ4
    go_wp2_with fail
    refine HR.out.mono ?_
    rintro e w5 ⟨rfl, hS5, hE5, hr5⟩
    have hX5 := hr5.blk HX3.out (show p ≠ w.heap.size by omega) (show p ≠ w3.heap.size by omega)
    have hs5 : w3.heap.size < w5.heap.size := by (have := hr5.size; omega)
    have hb5 : Below w.heap.size w w5 := HB3.out.trans (hr5.below (Nat.le_refl _) hs3 (by omega))
    have hl5e : (((l.drop 2).drop 2).take m) = l.drop 4 := by
      have := HL.out; have := HD.out.1
      rw [List.drop_drop]
      exact List.take_of_length_le (by rw [List.length_drop]; omega)
    rw [hl5e] at hE5
    have hl5 : (l.drop 4).length = m := by
      have := HL.out; have := HD.out.1
      rw [List.length_drop]; omega
    clear hl5e HR HX3 HB3 hS5 hr5
    generalize l.drop 4 = l5 at *
    rw [H2.out] at hl5
    have hEs := hE5
    obtain ⟨oe, ce, hEX, hce, hEB, hEb⟩ := hE5
    have e5 := hEX.at 0 _ rfl
    rw [hl5] at e5
    have hNew : Blk (w5.alloc (.cells #[.int .u16 0] 30)) w5.heap.size 30 #[.int .u16 0] := Blk.new w5 _ _
    have HU := Lib.hid (u16_ok w3.heap.size b w5.heap.size v l5 (w5.alloc (.cells #[.int .u16 0] 30)) (hEs.below ((Below.refl _ _).alloc (Nat.le_refl _) _) hEs.lt (by omega)) (by omega) (by omega) HV.out (.int .u16 0) (hNew.at 0 _ rfl) (hNew.frozen 0) (by omega) (by omega))
    have HX5 := Lib.hid (And.intro (hX5.alloc (.cells #[.int .u16 0] 30)) (hb5.alloc (by omega) (.cells #[.int .u16 0] 30)))
    have hsz5 : (w5.alloc (.cells #[.int .u16 0] 30)).heap.size = w5.heap.size + 1 := by simp
    clear hEX hEB hX5 hb5 hce hl5 hNew
    go_wp2_with fail
    refine HU.out.mono ?_
    rintro e w7 ⟨rfl, hS7, hv7, hr7⟩
    rw [HV.out] at hv7
    have hX7 := hr7.blk HX5.out.1 (show p ≠ w3.heap.size by omega) (show p ≠ w5.heap.size by omega)
    have hb7 : Below w.heap.size w w7 := HX5.out.2.trans (hr7.below (by omega) (by omega) (by omega))
    have x7 := hX7.at 2 (.int .u16 0) rfl
    have f7 := hX7.frozen 2
    have HX7 := Lib.hid (And.intro hX7 hb7)
    clear hr7 hX7 hb7
    go_wp2_with fail
    go_ret
    exact ⟨rfl, HX7.out.1.set_ 2 _, grown_setCell (grown_below HX7.out.2 _) 2 _⟩

set_option maxHeartbeats 4000000 in
set_option maxRecDepth 100000 in
theorem data (w : World) (p v : Nat) (hv : v < 65536) (hX : Blk w p 126 #[.slice none 0 0, .slice none 0 0, .int .u16 v]) :
    Calls Tryd.prog 72 #[.pointer (some ⟨p, 0, none⟩)] w fun e w' => e = .returned (.agg (ext0 41 ⟨#[]⟩ false v false)) ∧ Below w.heap.size w w' := by
  have hpl := hX.lt
  go_enter Tryd.func72, Tryd.ntmps72
  go_wp2_with (first
    | (refine wpList_alloc_blk (o := ⟨some 2, _, _, _, _, _⟩) _ rfl 39 rfl zeroExt zext ?_; intro w1 hR1 hb1 hz1)
    | (refine wpList_build _ rfl 39 #[(0, .const (.int .u16 41))] rfl #[(0, .int .u16 41)] rfl _ (buildT 41 _) ?_)
    | (refine wpList_alloc_blk (o := ⟨some 3, _, _, _, _, _⟩) _ rfl 39 rfl zeroExt zext ?_; intro w2 hO2 hb2 hz2)
    | (refine wpList_store_blk (y := .tmp 8) _ rfl 39 (.tmp 3) rfl w1.heap.size 39 zeroExt (ext0 41 ⟨#[]⟩ false 0 false) rfl rfl hO2 sext rfl (ext0_one _ _ _ _ _) ?_; intro w3 hO3 hg3; have x30 := (((hX.below hb1 hpl).below hb2 (by omega)).grown hg3 (by simp; omega)).at 0 (.slice none 0 0) rfl; have x31 := (((hX.below hb1 hpl).below hb2 (by omega)).grown hg3 (by simp; omega)).at 1 (.slice none 0 0) rfl; have x32 := (((hX.below hb1 hpl).below hb2 (by omega)).grown hg3 (by simp; omega)).at 2 (.int .u16 v) rfl; have c6 := hO3.at 6 (.int .u32 0) rfl; have f6 := hO3.frozen 6; have hR3 : Blk w3 w.heap.size 39 zeroExt := (hR1.below hb2 (by omega)).grown hg3 (by simp; omega); have hb3 : Below w.heap.size w w3 := hb1.trans ((hb2.mono (Nat.le_of_lt hz1)).trans ((below_grown hg3 (Nat.le_of_lt hz2)).mono (Nat.le_of_lt hz1))))
    | fail)
  go_loopw [14] (fun iv wr => iv = .int .i64 0 ∧ wr = w3) (fun _ _ => 0)
  case atStart => exact ⟨rfl, rfl⟩
  case round =>
    obtain ⟨rfl, rfl⟩ := hrel
    go_wp2_with fail
    go_loopw [35] (fun iv wq => iv = .int .i64 0 ∧ wq = wr) (fun _ _ => 0)
    case atStart => exact ⟨rfl, rfl⟩
    case round =>
      obtain ⟨rfl, rfl⟩ := hrel
      go_wp2_with (first
        | (refine wpList_load_blk _ rfl 39 (.tmp 3) rfl w1.heap.size 39 (ext0 41 ⟨#[]⟩ false v false) _ rfl (hO3.set_ 6 _) Tryd.underlying39 rfl sext ?_)
        | (refine wpList_store_blk (y := .tmp 53) _ rfl 39 (.tmp 2) rfl w.heap.size 39 zeroExt (ext0 41 ⟨#[]⟩ false v false) rfl rfl (hR3.far (p := ⟨w1.heap.size, 6, none⟩) (by show w.heap.size ≠ w1.heap.size; omega) _) sext rfl (ext0_one _ _ _ _ _) ?_; intro w4 hR4 hg4))
      refine bodyPost_ret (v := .agg (ext0 41 ⟨#[]⟩ false v false)) (results_blk _ rfl _ w.heap.size 39 _ _ rfl hR4 Tryd.underlying39 rfl sext) rfl ⟨rfl, ?_⟩
      exact (hb3.setCell (p := ⟨w1.heap.size, 6, none⟩) (Nat.le_of_lt hz1) _).trans (below_grown hg4 (by have := hb3.size; simp; omega))
end Go.Proofs.YtgjlnkciemdklaaDoor.fnPreSharedKeySelectedBack
