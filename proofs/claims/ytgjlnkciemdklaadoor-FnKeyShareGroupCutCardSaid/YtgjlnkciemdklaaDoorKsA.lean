/-
  CONTRACTS of the extension KeyShareRead's Unmarshal at a cut text (printed by gen_unm.py).
-/
import Derived.Test.YtgjlnkciemdklaaDoorRead
import Derived.Test.YtgjlnkciemdklaaDoorEmpty
import Derived.Test.YtgjlnkciemdklaaDoorFramed
import Derived.Test.YtgjlnkciemdklaaDoorExt
import Derived.Deep.RegionWith
import Derived.Deep.QuietTactic
import Derived.BigQuiet
import Derived.Deep.Cut
namespace Go.Proofs.YtgjlnkciemdklaaDoor.fnKeyShareGroupCut
open Go.ChangeShapes Go.WideShapes Go.ChangeAt Go.RowKit
set_option linter.unusedVariables false
set_option linter.unusedSimpArgs false
theorem tv_any (v0 v1 v2 : Value) (w : World) : Calls Tryd.prog 102 #[.agg #[v0, v1, v2]] w fun e w' => e = .returned (.int .u16 51) ∧ Below w.heap.size w w' := by
  go_enter Tryd.func102, Tryd.ntmps102
  go_wp2
  go_ret
  exact ⟨rfl, (Below.refl _ _).alloc (Nat.le_refl _) _⟩

theorem str_new (w : World) (b c : Nat) (l : List UInt8) (n : Nat) (hn : l.length = n) (hc : n ≤ c) (hB : Bytes w b 0 l) (hb : b < w.heap.size) (o : Obj) :
    Str ((w.alloc (.cells #[.slice (some ⟨b, 0, none⟩) n c] 152)).alloc o) w.heap.size b l := by
  subst hn
  exact ⟨0, c, (Blk.new w _ _).alloc _, hc, (hB.alloc hb _).alloc (by simp; omega) _, by omega⟩
theorem num_new (w : World) (o : Obj) : Blk ((w.alloc o).alloc (.cells #[.int .u16 0] 30)) (w.heap.size + 1) 30 #[.int .u16 0] := by
  have := Blk.new (w.alloc o) 30 #[.int .u16 0]
  simpa using this

theorem str_new3 (w : World) (b c : Nat) (l : List UInt8) (n : Nat) (hn : l.length = n) (hc : n ≤ c) (hB : Bytes w b 0 l) (hb : b < w.heap.size) :
    Str (((w.alloc (.cells #[.slice (some ⟨b, 0, none⟩) n c] 152)).alloc (.cells #[.slice none 0 0] 152)).alloc (.cells #[.int .u16 0] 30)) w.heap.size b l := by
  subst hn
  exact ⟨0, c, ((Blk.new w _ _).alloc _).alloc _, hc, ((hB.alloc hb _).alloc (by simp; omega) _).alloc (by simp; omega) _, by omega⟩
theorem num_new3 (w : World) (o : Obj) : Blk (((w.alloc o).alloc (.cells #[.slice none 0 0] 152)).alloc (.cells #[.int .u16 0] 30)) (w.heap.size + 2) 30 #[.int .u16 0] := by
  have := Blk.new ((w.alloc o).alloc (.cells #[.slice none 0 0] 152)) 30 #[.int .u16 0]
  simpa using this
theorem ext_new3 (w : World) (o : Obj) : Blk (((w.alloc o).alloc (.cells #[.slice none 0 0] 152)).alloc (.cells #[.int .u16 0] 30)) (w.heap.size + 1) 152 #[.slice none 0 0] := by
  have := (Blk.new (w.alloc o) 152 #[.slice none 0 0]).alloc (.cells #[.int .u16 0] 30)
  simpa using this

def SomeErr (e : Ending) : Prop := ∃ a, e = .returned (.iface 206 (.pointer (some a)))

set_option maxHeartbeats 2000000 in
set_option maxRecDepth 100000 in
theorem unm_cut2 (p b n c : Nat) (l : List UInt8) (w : World) (hX : Blk w p 133 #[.slice none 0 0, .pointer none, .pointer none]) (hl : l.length = n) (hB : Bytes w b 0 l) (hb : b < w.heap.size) (hc : n ≤ c) (hn : n < 2)
    (e1 : IsErr 206 w 1) :
    Calls Tryd.prog 73 #[.pointer (some ⟨p, 0, none⟩), .slice (some ⟨b, 0, none⟩) n c] w fun e w' => SomeErr e ∧ Below w.heap.size w w' := by
  have l1 := e1.lt
  obtain ⟨a1, c1⟩ := e1
  have hp := hX.lt
  have HS := Lib.hid (str_new3 w b c l n hl hc hB hb)
  have HL := Lib.hid hl
  clear hB hl
  go_enter Tryd.func73, Tryd.ntmps73
  go_upto_region 4 with fail
  have hS1 := HS.out
  have hQ1 := num_new3 w (.cells #[.slice (some ⟨b, 0, none⟩) n c] 152)
  have hE1 := ext_new3 w (.cells #[.slice (some ⟨b, 0, none⟩) n c] 152)
  have hb1 : Below w.heap.size w (((w.alloc (.cells #[.slice (some ⟨b, 0, none⟩) n c] 152)).alloc (.cells #[.slice none 0 0] 152)).alloc (.cells #[.int .u16 0] 30)) := (((Below.refl _ _).alloc (Nat.le_refl _) _).alloc (by simp) _).alloc (by simp; omega) _
  have hX1 := hX.below hb1 hp
  clear HS hX
  generalize (((w.alloc (.cells #[.slice (some ⟨b, 0, none⟩) n c] 152)).alloc (.cells #[.slice none 0 0] 152)).alloc (.cells #[.int .u16 0] 30)) = w1 at *
  have k1 := (hb1.cell (p := ⟨1, 0, none⟩) l1).trans c1
  have HU := Lib.hid (fun k => (u16_no w.heap.size b (w.heap.size + 2) l (w1.drewN k) hS1 (by rw [HL.out]; exact hn)).mono fun e w' (h : e = .returned (.bool false) ∧ w1.drewN k = w') => And.intro h.1 h.2.symm)
  have HB := Lib.hid hb1
  clear hE1 hS1 hQ1 hX1 hb1 hn c1
  go_quiet (first | (go_at_call 84; refine Calls.quiet_of_same (HU.out _)))
  go_wp2
  go_ret
  exact ⟨⟨_, rfl⟩, below_drewN HB.out _⟩

set_option maxHeartbeats 4000000 in
set_option maxRecDepth 100000 in
theorem unm_cut4 (p b n c : Nat) (l : List UInt8) (w : World) (hX : Blk w p 133 #[.slice none 0 0, .pointer none, .pointer none]) (hl : l.length = n) (hB : Bytes w b 0 l) (hb : b < w.heap.size) (hc : n ≤ c) (hn : 2 ≤ n) (hm : n < 2147483648)
    (ht : two l 0 = 51) (hcut : n < 4 ∨ n < 4 + numOf ((l.drop 2).take 2))
    (e1 : IsErr 206 w 2) :
    Calls Tryd.prog 73 #[.pointer (some ⟨p, 0, none⟩), .slice (some ⟨b, 0, none⟩) n c] w fun e w' => SomeErr e ∧ Below w.heap.size w w' := by
  have l1 := e1.lt
  obtain ⟨a1, c1⟩ := e1
  have HC := Lib.hid hcut
  clear hcut
  have hp := hX.lt
  have HS := Lib.hid (str_new3 w b c l n hl hc hB hb)
  have HL := Lib.hid hl
  clear hB hl
  go_enter Tryd.func73, Tryd.ntmps73
  go_upto_region 4 with fail
  have hS1 := HS.out
  have hQ1 := num_new3 w (.cells #[.slice (some ⟨b, 0, none⟩) n c] 152)
  have hE1 := ext_new3 w (.cells #[.slice (some ⟨b, 0, none⟩) n c] 152)
  have hb1 : Below w.heap.size w (((w.alloc (.cells #[.slice (some ⟨b, 0, none⟩) n c] 152)).alloc (.cells #[.slice none 0 0] 152)).alloc (.cells #[.int .u16 0] 30)) := (((Below.refl _ _).alloc (Nat.le_refl _) _).alloc (by simp) _).alloc (by simp; omega) _
  have hX1 := hX.below hb1 hp
  clear HS hX
  generalize (((w.alloc (.cells #[.slice (some ⟨b, 0, none⟩) n c] 152)).alloc (.cells #[.slice none 0 0] 152)).alloc (.cells #[.int .u16 0] 30)) = w1 at *
  have HU := Lib.hid (u16_ok w.heap.size b (w.heap.size + 2) 51 l w1.drew hS1.drew (by rw [HL.out]; exact hn) (by rw [HL.out]; exact hm) ht (.int .u16 0) (hQ1.drew.at 0 _ rfl) (hQ1.drew.frozen 0) (by omega) (by omega))
  have HB := Lib.hid hb1
  have hs1 := hb1.size
  have HT := Lib.hid ht
  have HX1 := Lib.hid hX1.drew
  have HQ1 := Lib.hid hQ1
  have HE1 := Lib.hid hE1.drew
  have hel := hE1.lt
  clear hE1
  clear hS1 hQ1 hX1 hb1 ht
  go_region_with (first
    | (go_at_call 84; refine HU.out.mono ?_; rintro e w2 ⟨rfl, hS2, q0, hr2⟩; rw [HT.out] at q0; have hX2 := hr2.blk HX1.out (show p ≠ w.heap.size by omega) (show p ≠ w.heap.size + 2 by omega); have y0 := hX2.at 0 _ rfl; have y1 := hX2.at 1 _ rfl; have y2 := hX2.at 2 _ rfl)
    | (go_at_call 102; refine (tv_any _ _ _ _).mono ?_; rintro e w3 ⟨rfl, hb3⟩; have q3 := (hb3.cell (p := ⟨w.heap.size + 2, 0, none⟩) (Nat.lt_of_lt_of_le HQ1.out.lt hr2.size)).trans q0))
  all_goals
    have hb2 : Below w.heap.size w w2 := HB.out.drew.trans (hr2.below (Nat.le_refl _) (by omega) hs1)
    have hs2 := hb2.size
    have hq1 : w.heap.size + 2 < w2.heap.size := Nat.lt_of_lt_of_le HQ1.out.lt hr2.size
    have hp1 := hX2.lt
    have hb3' : Below w.heap.size w w3 := hb2.trans (hb3.mono hs2)
    have hS3 : Str w3 w.heap.size b (l.drop 2) := hS2.below hb3 (by show w.heap.size < w2.heap.size; omega) (by show b < w2.heap.size; omega)
    have hX3 := hX2.below hb3 hp1
    have hE3 := (hr2.blk HE1.out (show w.heap.size + 1 ≠ w.heap.size by omega) (show w.heap.size + 1 ≠ w.heap.size + 2 by omega)).below hb3 (by omega)
    have hs3 := hb3'.size
    have hl3 := hS3.lt
    have hpl3 : p < w3.heap.size := by omega
    have hdl : (l.drop 2).length = n - 2 := by rw [List.length_drop, HL.out]
    have HR := Lib.hid (lp16_cut w.heap.size b (w.heap.size + 1) (l.drop 2) w3 hS3 (by omega) (by have := HC.out; omega))
    have HB3 := Lib.hid hb3'
    clear hS3 hdl hb3 hb3' q0 q3 y0 y1 y2 hX2 hX3 hE3 hS2 hr2 hb2
    go_wp2_with fail
    refine HR.out.mono ?_
    rintro e w5 ⟨rfl, hg5⟩
    have hb5 : Below w.heap.size w w5 := HB3.out.trans (below_grown hg5 (by omega) |>.mono (Nat.le_refl _))
    have k5 := (hb5.cell (p := ⟨2, 0, none⟩) l1).trans c1
    go_wp2_with fail
    go_ret
    exact ⟨⟨_, rfl⟩, hb5⟩

theorem build0X (w : World) : (Instr.build 133 #[]).run Tryd.prog w = .ok (.agg #[.slice none 0 0, .pointer none, .pointer none]) w := by kernel_rfl

set_option maxHeartbeats 4000000 in
set_option maxRecDepth 100000 in
theorem read_no (s : ByteArray) (w : World) (hm : s.size < 2147483648) (hcut : CutAt 51 s)
    (e1 : IsErr 206 w 1) (e2 : IsErr 206 w 2) :
    Calls Tryd.prog 34 #[.string s] w fun e w' => e = .returned (.tuple #[.agg zeroExt, .bool false]) ∧ Below w.heap.size w w' := by
  have hll := toList_size s
  have HD := Lib.hid hcut
  have hml : s.size ≤ maxLen := by unfold maxLen; omega
  clear hcut
  go_enter Tryd.func34, Tryd.ntmps34
  go_wp2_with (first
    | (refine wpList_alloc_blk (o := ⟨some 2, _, _, _, _, _⟩) _ rfl 39 rfl zeroExt zext ?_; intro w1 hR1 hb1 hz1)
    | (refine wpList_build _ rfl 133 #[] rfl #[] rfl _ (build0X _) ?_)
    | (refine wpList_box_blk _ rfl 133 (.tmp 6) rfl #[.slice none 0 0, .pointer none, .pointer none] rfl ?_; intro w2 hX2 hb2 hz2)
    | (refine wpList_to_bytes _ rfl (.tmp 9) 9 68 5 rfl Tryd.underlying9 Tryd.underlying68 Tryd.underlying5 s rfl hml ?_; intro c w3 hc hc2 hb3 hz3 hB3))
  have hX3 := hX2.below hb3 hz2
  have hR3 : Blk w3 w.heap.size 39 zeroExt := (hR1.below hb2 hz1).below hb3 (by omega)
  have h3 : Below w.heap.size w w3 := hb1.trans ((hb2.mono (Nat.le_of_lt hz1)).trans (hb3.mono (by omega)))
  have key : Calls Tryd.prog 73 #[.pointer (some ⟨w1.heap.size, 0, none⟩), .slice (some ⟨w2.heap.size, 0, none⟩) s.size c] w3 fun e w' => SomeErr e ∧ Below w3.heap.size w3 w' := by
    rcases HD.out with h | ⟨h, ht, h'⟩
    · exact unm_cut2 w1.heap.size w2.heap.size s.size c s.data.toList w3 hX3 hll hB3 hz3 hc h (e1.below h3 e1.lt)
    · exact unm_cut4 w1.heap.size w2.heap.size s.size c s.data.toList w3 hX3 hll hB3 hz3 hc h hm ht h' (e2.below h3 e2.lt)
  refine key.mono ?_
  rintro e w4 ⟨⟨a, rfl⟩, hb4⟩
  have hR4 := hR3.below hb4 (by omega)
  have h4 := h3.trans (hb4.mono h3.size)
  clear key hX3
  go_wp2_with (first
    | (refine wpList_build _ rfl 39 #[] rfl #[] rfl _ (build0Ext _) ?_)
    | (refine wpList_store_blk (y := .tmp 14) _ rfl 39 (.tmp 2) rfl w.heap.size 39 zeroExt zeroExt rfl rfl hR4 sext rfl (ext0_one _ _ _ _ _) ?_; intro w6 hR6 hg6))
  refine bodyPost_ret (v := .tuple #[.agg zeroExt, .bool false]) (results_blk_tmp _ rfl _ w.heap.size 39 _ _ (.bool false) rfl rfl hR6 Tryd.underlying39 rfl sext) rfl ⟨rfl, ?_⟩
  exact h4.trans (below_grown hg6 h4.size)
end Go.Proofs.YtgjlnkciemdklaaDoor.fnKeyShareGroupCut
