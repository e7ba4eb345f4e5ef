/-
  CONTRACTS of the extension ServerNameRead's Unmarshal at cut texts.
-/
import Derived.Test.YtgjlnkciemdklaaDoorRead
import Derived.Test.YtgjlnkciemdklaaDoorEmpty
import Derived.Test.YtgjlnkciemdklaaDoorFramed
import Derived.Test.YtgjlnkciemdklaaDoorRead8
import Derived.Test.YtgjlnkciemdklaaDoorExt
import Derived.Deep.RegionWith
import Derived.Deep.QuietTactic
import Derived.BigQuiet
import Derived.Deep.Cut
namespace Go.Proofs.YtgjlnkciemdklaaDoor.fnServerNameCut
open Go.ChangeShapes Go.WideShapes Go.ChangeAt Go.RowKit
set_option linter.unusedVariables false
set_option linter.unusedSimpArgs false
theorem tv_any (v0 : Value) (w : World) : Calls Tryd.prog 98 #[.agg #[v0]] w fun e w' => e = .returned (.int .u16 0) ∧ Below w.heap.size w w' := by
  go_enter Tryd.func98, Tryd.ntmps98
  go_wp2
  go_ret
  exact ⟨rfl, (Below.refl _ _).alloc (Nat.le_refl _) _⟩

theorem str_new (w : World) (b c : Nat) (l : List UInt8) (n : Nat) (hn : l.length = n) (hc : n ≤ c) (hB : Bytes w b 0 l) (hb : b < w.heap.size) (o : Obj) :
    Str ((w.alloc (.cells #[.slice (some ⟨b, 0, none⟩) n c] 152)).alloc o) w.heap.size b l := by
  subst hn
  exact ⟨0, c, (Blk.new w _ _).alloc _, hc, (hB.alloc hb _).alloc (by simp; omega) _, by omega⟩
theorem num_new (w : World) (o : Obj) : Blk ((w.alloc o).alloc (.cells #[.int .u16 0] 30)) (w.heap.size + 1) 30 #[.int .u16 0] := by
  have := Blk.new (w.alloc o) 30 #[.int .u16 0]
  simpa using this

def SomeErr (e : Ending) : Prop := ∃ a, e = .returned (.iface 206 (.pointer (some a)))

set_option maxHeartbeats 4000000 in
set_option maxRecDepth 100000 in
theorem unm_cut2 (p b n c : Nat) (l : List UInt8) (w : World) (hX : Blk w p 120 #[.string ⟨#[]⟩]) (hl : l.length = n) (hB : Bytes w b 0 l) (hb : b < w.heap.size) (hc : n ≤ c) (hn : n < 2)
    (e1 : IsErr 206 w 2) :
    Calls Tryd.prog 69 #[.pointer (some ⟨p, 0, none⟩), .slice (some ⟨b, 0, none⟩) n c] w fun e w' => SomeErr e ∧ Below w.heap.size w w' := by
  have l1 := e1.lt
  obtain ⟨a1, c1⟩ := e1
  have hp := hX.lt
  have HS := Lib.hid (str_new w b c l n hl hc hB hb)
  have HL := Lib.hid hl
  clear hB hl
  go_enter Tryd.func69, Tryd.ntmps69
  go_upto_region 3 with fail
  have hS1 := HS.out (.cells #[.int .u16 0] 30)
  have hQ1 := num_new w (.cells #[.slice (some ⟨b, 0, none⟩) n c] 152)
  have hb1 : Below w.heap.size w ((w.alloc (.cells #[.slice (some ⟨b, 0, none⟩) n c] 152)).alloc (.cells #[.int .u16 0] 30)) := ((Below.refl _ _).alloc (Nat.le_refl _) _).alloc (by simp) _
  have hX1 := hX.below hb1 hp
  clear HS hX
  generalize ((w.alloc (.cells #[.slice (some ⟨b, 0, none⟩) n c] 152)).alloc (.cells #[.int .u16 0] 30)) = w1 at *
  have HU := Lib.hid (u16_no w.heap.size b (w.heap.size + 1) l w1 hS1 (by rw [HL.out]; exact hn))
  have HB := Lib.hid hb1
  have hs1 := hb1.size
  have HX1 := Lib.hid hX1
  have HQ1 := Lib.hid hQ1
  have HS1 := Lib.hid hS1
  clear hS1 hQ1 hX1 hb1
  go_wp2_with (go_at_call 84; refine HU.out.mono ?_; rintro e w2 ⟨rfl, hw2⟩; subst hw2; have q0 := HQ1.out.at 0 _ rfl; have y0 := HX1.out.at 0 _ rfl)
  have hX2 := HX1.out
  have hb2 := HB.out
  have hq1 := HQ1.out.lt
  have hS2 := HS1.out
  have hs2 := hb2.size
  have hp1 := hX2.lt
  have HS2 := Lib.hid hS2
  have HX2 := Lib.hid hX2
  have HB2 := Lib.hid hb2
  clear hS2 hX2 hb2 
  go_region_with (go_at_call 98; refine (tv_any _ _).mono ?_; rintro e w3 ⟨rfl, hb3⟩; have q3 := (hb3.cell (p := ⟨w.heap.size + 1, 0, none⟩) hq1).trans q0; have y3 := (hb3.cell (p := ⟨p, 0, none⟩) hp1).trans y0)
  all_goals
    have hb3' : Below w.heap.size w w3 := HB2.out.drew.trans (hb3.mono hs2)
    have hS3 : Str w3 w.heap.size b l := HS2.out.drew.below hb3 (by show w.heap.size < w1.heap.size; omega) (by show b < w1.heap.size; omega)
    have hX3 := HX2.out.drew.below hb3 hp1
    have hs3 := hb3'.size
    have hl3 := hS3.lt
    have hpl3 : p < w3.heap.size := by omega
    have hS4 : ∀ o : Obj, Str (w3.alloc o) w.heap.size b l := fun o => hS3.below ((Below.refl _ _).alloc (Nat.le_refl _) o) hS3.lt (by omega)
    have HR := Lib.hid (fun o : Obj => lp16_cut w.heap.size b w3.heap.size l (w3.alloc o) (hS4 o) (by have := HL.out; omega) (by have := HL.out; omega))
    have HB3 := Lib.hid hb3'
    clear hS3 hS4 hb3 hb3' q0 q3 y0 y3 hX3
    go_wp2_with fail
    refine (HR.out _).mono ?_
    rintro e w5 ⟨rfl, hg5⟩
    have hb5 : Below w.heap.size w w5 := (HB3.out.alloc hs3 _).trans (below_grown hg5 (by simp; omega) |>.mono (Nat.le_refl _))
    have k5 := (hb5.cell (p := ⟨2, 0, none⟩) l1).trans c1
    go_wp2_with fail
    go_ret
    exact ⟨⟨_, rfl⟩, hb5⟩

set_option maxHeartbeats 4000000 in
set_option maxRecDepth 100000 in
theorem unm_cut4 (p b n c : Nat) (l : List UInt8) (w : World) (hX : Blk w p 120 #[.string ⟨#[]⟩]) (hl : l.length = n) (hB : Bytes w b 0 l) (hb : b < w.heap.size) (hc : n ≤ c) (hn : 2 ≤ n) (hm : n < 2147483648)
    (ht : two l 0 = 0) (hcut : n < 4 ∨ n < 4 + numOf ((l.drop 2).take 2))
    (e1 : IsErr 206 w 2) :
    Calls Tryd.prog 69 #[.pointer (some ⟨p, 0, none⟩), .slice (some ⟨b, 0, none⟩) n c] w fun e w' => SomeErr e ∧ Below w.heap.size w w' := by
  have l1 := e1.lt
  obtain ⟨a1, c1⟩ := e1
  have HC := Lib.hid hcut
  clear hcut
  have hp := hX.lt
  have HS := Lib.hid (str_new w b c l n hl hc hB hb)
  have HL := Lib.hid hl
  clear hB hl
  go_enter Tryd.func69, Tryd.ntmps69
  go_upto_region 3 with fail
  have hS1 := HS.out (.cells #[.int .u16 0] 30)
  have hQ1 := num_new w (.cells #[.slice (some ⟨b, 0, none⟩) n c] 152)
  have hb1 : Below w.heap.size w ((w.alloc (.cells #[.slice (some ⟨b, 0, none⟩) n c] 152)).alloc (.cells #[.int .u16 0] 30)) := ((Below.refl _ _).alloc (Nat.le_refl _) _).alloc (by simp) _
  have hX1 := hX.below hb1 hp
  clear HS hX
  generalize ((w.alloc (.cells #[.slice (some ⟨b, 0, none⟩) n c] 152)).alloc (.cells #[.int .u16 0] 30)) = w1 at *
  have HU := Lib.hid (u16_ok w.heap.size b (w.heap.size + 1) 0 l w1 hS1 (by rw [HL.out]; exact hn) (by rw [HL.out]; exact hm) ht (.int .u16 0) (hQ1.at 0 _ rfl) (hQ1.frozen 0) (by omega) (by omega))
  have HB := Lib.hid hb1
  have hs1 := hb1.size
  have HX1 := Lib.hid hX1
  have HQ1 := Lib.hid hQ1
  have HT := Lib.hid ht
  clear hS1 hQ1 hX1 hb1 ht
  go_wp2_with (go_at_call 84; refine HU.out.mono ?_; rintro e w2 ⟨rfl, hS2, q0, hr2⟩; rw [HT.out] at q0; have hX2 := hr2.blk HX1.out (show p ≠ w.heap.size by omega) (show p ≠ w.heap.size + 1 by omega); have y0 := hX2.at 0 _ rfl)
  have hb2 : Below w.heap.size w w2 := HB.out.trans (hr2.below (Nat.le_refl _) (by omega) hs1)
  have hq1 : w.heap.size + 1 < w2.heap.size := Nat.lt_of_lt_of_le HQ1.out.lt hr2.size
  have hs2 := hb2.size
  have hp1 := hX2.lt
  have HS2 := Lib.hid hS2
  have HX2 := Lib.hid hX2
  have HB2 := Lib.hid hb2
  clear hS2 hX2 hb2 hr2
  go_region_with (go_at_call 98; refine (tv_any _ _).mono ?_; rintro e w3 ⟨rfl, hb3⟩; have q3 := (hb3.cell (p := ⟨w.heap.size + 1, 0, none⟩) hq1).trans q0; have y3 := (hb3.cell (p := ⟨p, 0, none⟩) hp1).trans y0)
  all_goals
    have hb3' : Below w.heap.size w w3 := HB2.out.drew.trans (hb3.mono hs2)
    have hS3 : Str w3 w.heap.size b (l.drop 2) := HS2.out.drew.below hb3 (by show w.heap.size < w2.heap.size; omega) (by show b < w2.heap.size; omega)
    have hX3 := HX2.out.drew.below hb3 hp1
    have hs3 := hb3'.size
    have hl3 := hS3.lt
    have hpl3 : p < w3.heap.size := by omega
    have hdl : (l.drop 2).length = n - 2 := by rw [List.length_drop, HL.out]
    have hS4 : ∀ o : Obj, Str (w3.alloc o) w.heap.size b (l.drop 2) := fun o => hS3.below ((Below.refl _ _).alloc (Nat.le_refl _) o) hS3.lt (by omega)
    have HR := Lib.hid (fun o : Obj => lp16_cut w.heap.size b w3.heap.size (l.drop 2) (w3.alloc o) (hS4 o) (by omega) (by have := HC.out; omega))
    have HB3 := Lib.hid hb3'
    clear hS3 hS4 hb3 hb3' q0 q3 y0 y3 hX3
    go_wp2_with fail
    refine (HR.out _).mono ?_
    rintro e w5 ⟨rfl, hg5⟩
    have hb5 : Below w.heap.size w w5 := (HB3.out.alloc hs3 _).trans (below_grown hg5 (by simp; omega) |>.mono (Nat.le_refl _))
    have k5 := (hb5.cell (p := ⟨2, 0, none⟩) l1).trans c1
    go_wp2_with fail
    go_ret
    exact ⟨⟨_, rfl⟩, hb5⟩

theorem build0X (w : World) : (Instr.build 120 #[]).run Tryd.prog w = .ok (.agg #[.string ⟨#[]⟩]) w := by kernel_rfl

set_option maxHeartbeats 4000000 in
set_option maxRecDepth 100000 in
theorem read_no (s : ByteArray) (w : World) (hm : s.size < 2147483648) (hcut : CutAt 0 s)
    (e1 : IsErr 206 w 1) (e2 : IsErr 206 w 2) :
    Calls Tryd.prog 30 #[.string s] w fun e w' => e = .returned (.tuple #[.agg zeroExt, .bool false]) ∧ Below w.heap.size w w' := by
  have hll := toList_size s
  have HD := Lib.hid hcut
  have hml : s.size ≤ maxLen := by unfold maxLen; omega
  clear hcut
  go_enter Tryd.func30, Tryd.ntmps30
  go_wp2_with (first
    | (refine wpList_alloc_blk (o := ⟨some 2, _, _, _, _, _⟩) _ rfl 39 rfl zeroExt zext ?_; intro w1 hR1 hb1 hz1)
    | (refine wpList_build _ rfl 120 #[] rfl #[] rfl _ (build0X _) ?_)
    | (refine wpList_box_blk _ rfl 120 (.tmp 6) rfl #[.string ⟨#[]⟩] rfl ?_; intro w2 hX2 hb2 hz2)
    | (refine wpList_to_bytes _ rfl (.tmp 9) 9 68 5 rfl Tryd.underlying9 Tryd.underlying68 Tryd.underlying5 s rfl hml ?_; intro c w3 hc hc2 hb3 hz3 hB3))
  have hX3 := hX2.below hb3 hz2
  have hR3 : Blk w3 w.heap.size 39 zeroExt := (hR1.below hb2 hz1).below hb3 (by omega)
  have h3 : Below w.heap.size w w3 := hb1.trans ((hb2.mono (Nat.le_of_lt hz1)).trans (hb3.mono (by omega)))
  have key : Calls Tryd.prog 69 #[.pointer (some ⟨w1.heap.size, 0, none⟩), .slice (some ⟨w2.heap.size, 0, none⟩) s.size c] w3 fun e w' => SomeErr e ∧ Below w3.heap.size w3 w' := by
    rcases HD.out with h | ⟨h, ht, h'⟩
    · exact unm_cut2 w1.heap.size w2.heap.size s.size c s.data.toList w3 hX3 hll hB3 hz3 hc h (e2.below h3 e2.lt)
    · exact unm_cut4 w1.heap.size w2.heap.size s.size c s.data.toList w3 hX3 hll hB3 hz3 hc h hm ht h' (e2.below h3 e2.lt)
  refine key.mono ?_
  rintro e w4 ⟨⟨a, rfl⟩, hb4⟩
  have hR4 := hR3.below hb4 (by omega)
  have h4 := h3.trans (hb4.mono h3.size)
  clear key hX3
  go_wp2_with (first
    | (refine wpList_build _ rfl 39 #[] rfl #[] rfl _ (build0Ext _) ?_)
    | (refine wpList_store_blk (y := .tmp 14) _ rfl 39 (.tmp 2) rfl w.heap.size 39 zeroExt zeroExt rfl rfl hR4 sext rfl (ext0_one _ _ _ _ _) ?_; intro w6 hR6 hg6))
  refine bodyPost_ret (v := .tuple #[.agg zeroExt, .bool false]) (results_blk_tmp _ rfl _ w.heap.size 39 _ _ (.bool false) rfl rfl hR6 Tryd.underlying39 rfl sext) rfl ⟨rfl, ?_⟩
  exact h4.trans (below_grown hg6 h4.size)
end Go.Proofs.YtgjlnkciemdklaaDoor.fnServerNameCut
