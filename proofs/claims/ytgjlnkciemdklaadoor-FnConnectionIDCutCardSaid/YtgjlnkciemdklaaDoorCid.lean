/-
  CONTRACTS of the functions that the law FnConnectionIDCut calls.
-/
import Derived.Test.YtgjlnkciemdklaaDoorRead
import Derived.Test.YtgjlnkciemdklaaDoorBig
import Derived.Test.YtgjlnkciemdklaaDoorExt
import Derived.Deep.RegionWith
import Derived.Deep.Cut
namespace Go.Proofs.YtgjlnkciemdklaaDoor.fnConnectionIDCut
open Go.ChangeShapes Go.WideShapes Go.ChangeAt Go.RowKit
set_option linter.unusedVariables false
set_option linter.unusedSimpArgs false
theorem tv_any (v : Value) (w : World) : Calls Tryd.prog 89 #[.agg #[v]] w fun e w' => e = .returned (.int .u16 54) ∧ Below w.heap.size w w' := by
  go_enter Tryd.func89, Tryd.ntmps89
  go_wp2
  go_ret
  exact ⟨rfl, (Below.refl _ _).alloc (Nat.le_refl _) _⟩

/-- A variable that was made and set to the bytes, and a number's variable behind it. -/
theorem str_new (w : World) (b c : Nat) (l : List UInt8) (n : Nat) (hn : l.length = n) (hc : n ≤ c) (hB : Bytes w b 0 l) (hb : b < w.heap.size) (o : Obj) :
    Str ((w.alloc (.cells #[.slice (some ⟨b, 0, none⟩) n c] 152)).alloc o) w.heap.size b l := by
  subst hn
  exact ⟨0, c, (Blk.new w _ _).alloc _, hc, (hB.alloc hb _).alloc (by simp; omega) _, by omega⟩
theorem num_new (w : World) (o : Obj) : Blk ((w.alloc o).alloc (.cells #[.int .u16 0] 30)) (w.heap.size + 1) 30 #[.int .u16 0] := by
  have := Blk.new (w.alloc o) 30 #[.int .u16 0]
  simpa using this

def SomeErr (e : Ending) : Prop := ∃ a, e = .returned (.iface 206 (.pointer (some a)))

set_option maxHeartbeats 2000000 in
set_option maxRecDepth 100000 in
theorem unm_cut2 (p b n c : Nat) (l : List UInt8) (w : World) (hX : Blk w p 85 #[.slice none 0 0]) (hl : l.length = n) (hB : Bytes w b 0 l) (hb : b < w.heap.size) (hc : n ≤ c) (hn : n < 2)
    (e1 : IsErr 206 w 1) :
    Calls Tryd.prog 47 #[.pointer (some ⟨p, 0, none⟩), .slice (some ⟨b, 0, none⟩) n c] w fun e w' => SomeErr e ∧ Below w.heap.size w w' := by
  have l1 := e1.lt
  obtain ⟨a1, c1⟩ := e1
  have hp := hX.lt
  have x0 := hX.at 0 (.slice none 0 0) rfl
  have HS := Lib.hid (str_new w b c l n hl hc hB hb)
  have HL := Lib.hid hl
  clear hB hl
  go_enter Tryd.func47, Tryd.ntmps47
  go_upto_region 3 with fail
  have hS1 := HS.out (.cells #[.int .u16 0] 30)
  have hQ1 := num_new w (.cells #[.slice (some ⟨b, 0, none⟩) n c] 152)
  have hb1 : Below w.heap.size w ((w.alloc (.cells #[.slice (some ⟨b, 0, none⟩) n c] 152)).alloc (.cells #[.int .u16 0] 30)) := ((Below.refl _ _).alloc (Nat.le_refl _) _).alloc (by simp) _
  have k1 := (hb1.cell (p := ⟨1, 0, none⟩) l1).trans c1
  have hX1 := hX.below hb1 hp
  have y0 := hX1.at 0 (.slice none 0 0) rfl
  have q0 := hQ1.at 0 (.int .u16 0) rfl
  have HX := Lib.hid hX
  clear HS hX x0 c1
  generalize ((w.alloc (.cells #[.slice (some ⟨b, 0, none⟩) n c] 152)).alloc (.cells #[.int .u16 0] 30)) = w1 at *
  have HU := Lib.hid (u16_no _ b (w.heap.size + 1) l w1 hS1 (by rw [HL.out]; exact hn))
  have HB := Lib.hid hb1
  have hs1 := hb1.size
  have hq1 := hQ1.lt
  have hp1 := hX1.lt
  clear hS1 hQ1 hX1 hb1 hn
  go_wp2_with (go_at_call 84; refine HU.out.mono ?_; rintro e w2 ⟨rfl, rfl⟩)
  have hl1 : 1 < w1.heap.size := Nat.lt_of_lt_of_le l1 hs1
  go_region_with (go_at_call 89; refine (tv_any _ _).mono ?_; rintro e w3 ⟨rfl, hb3⟩; have q3 := (hb3.cell (p := ⟨w.heap.size + 1, 0, none⟩) hq1).trans q0; have y3 := (hb3.cell (p := ⟨p, 0, none⟩) hp1).trans y0)
  all_goals
    have k3 := (hb3.cell (p := ⟨1, 0, none⟩) hl1).trans k1
    go_wp2
    go_ret
    exact ⟨⟨_, rfl⟩, HB.out.drew.trans (hb3.mono hs1)⟩

set_option maxHeartbeats 4000000 in
set_option maxRecDepth 100000 in
theorem unm_cut4 (p b n c : Nat) (l : List UInt8) (w : World) (hX : Blk w p 85 #[.slice none 0 0]) (hl : l.length = n) (hB : Bytes w b 0 l) (hb : b < w.heap.size) (hc : n ≤ c) (hn : 2 ≤ n) (hm : n < 2147483648)
    (ht : two l 0 = 54) (hcut : n < 4 ∨ n < 4 + numOf ((l.drop 2).take 2))
    (e1 : IsErr 206 w 2) :
    Calls Tryd.prog 47 #[.pointer (some ⟨p, 0, none⟩), .slice (some ⟨b, 0, none⟩) n c] w fun e w' => SomeErr e ∧ Below w.heap.size w w' := by
  have l1 := e1.lt
  obtain ⟨a1, c1⟩ := e1
  have hp := hX.lt
  have x0 := hX.at 0 (.slice none 0 0) rfl
  have HS := Lib.hid (str_new w b c l n hl hc hB hb)
  have HL := Lib.hid hl
  have HC := Lib.hid hcut
  clear hB hl hcut
  go_enter Tryd.func47, Tryd.ntmps47
  go_upto_region 3 with fail
  have hS1 := HS.out (.cells #[.int .u16 0] 30)
  have hQ1 := num_new w (.cells #[.slice (some ⟨b, 0, none⟩) n c] 152)
  have hb1 : Below w.heap.size w ((w.alloc (.cells #[.slice (some ⟨b, 0, none⟩) n c] 152)).alloc (.cells #[.int .u16 0] 30)) := ((Below.refl _ _).alloc (Nat.le_refl _) _).alloc (by simp) _
  have hX1 := hX.below hb1 hp
  have HX := Lib.hid hX
  have k1 := (hb1.cell (p := ⟨2, 0, none⟩) l1).trans c1
  clear HS hX x0
  generalize ((w.alloc (.cells #[.slice (some ⟨b, 0, none⟩) n c] 152)).alloc (.cells #[.int .u16 0] 30)) = w1 at *
  have HU := Lib.hid (u16_ok w.heap.size b (w.heap.size + 1) 54 l w1 hS1 (by rw [HL.out]; exact hn) (by rw [HL.out]; exact hm) ht (.int .u16 0) (hQ1.at 0 _ rfl) (hQ1.frozen 0) (by omega) (by omega))
  have HB := Lib.hid hb1
  have hs1 := hb1.size
  have HT := Lib.hid ht
  have HX1 := Lib.hid hX1
  have HQ1 := Lib.hid hQ1
  clear hS1 hQ1 hX1 hb1 ht k1
  go_wp2_with (go_at_call 84; refine HU.out.mono ?_; rintro e w2 ⟨rfl, hS2, q0, hr2⟩; rw [HT.out] at q0; have hX2 := hr2.blk HX1.out (show p ≠ w.heap.size by omega) (show p ≠ w.heap.size + 1 by omega); have y0 := hX2.at 0 (.slice none 0 0) rfl)
  have hb2 : Below w.heap.size w w2 := HB.out.trans (hr2.below (Nat.le_refl _) (by omega) hs1)
  have hs2 := hb2.size
  have hq1 : w.heap.size + 1 < w2.heap.size := Nat.lt_of_lt_of_le HQ1.out.lt hr2.size
  have hp1 := hX2.lt
  have HS2 := Lib.hid hS2
  have HX2 := Lib.hid hX2
  have HB2 := Lib.hid hb2
  clear hS2 hX2 hb2 hr2
  go_region_with (go_at_call 89; refine (tv_any _ _).mono ?_; rintro e w3 ⟨rfl, hb3⟩; have q3 := (hb3.cell (p := ⟨w.heap.size + 1, 0, none⟩) hq1).trans q0; have y3 := (hb3.cell (p := ⟨p, 0, none⟩) hp1).trans y0)
  all_goals
    have hb3' : Below w.heap.size w w3 := HB2.out.drew.trans (hb3.mono hs2)
    have hS3 : Str w3 w.heap.size b (l.drop 2) := HS2.out.drew.below hb3 (by show w.heap.size < w2.heap.size; omega) (by show b < w2.heap.size; omega)
    have hs3 := hb3'.size
    have k3 := (hb3'.cell (p := ⟨2, 0, none⟩) l1).trans c1
    have hS4 : ∀ o : Obj, Str (w3.alloc o) w.heap.size b (l.drop 2) := fun o => hS3.below ((Below.refl _ _).alloc (Nat.le_refl _) o) hS3.lt (by omega)
    have hdl : (l.drop 2).length = n - 2 := by rw [List.length_drop, HL.out]
    have HR := Lib.hid (fun o : Obj => lp16_cut w.heap.size b w3.heap.size (l.drop 2) (w3.alloc o) (hS4 o) (by omega) (by have := HC.out; omega))
    have HB3 := Lib.hid hb3'
    clear hS3 hS4 hdl hb3 hb3' q0 y0 q3 y3 k3
    go_wp2_with (go_at_call 86; refine (HR.out _).mono ?_; rintro e w5 ⟨rfl, hg5⟩; have hb5 : Below w.heap.size w w5 := (HB3.out.alloc hs3 _).trans (below_grown hg5 (by simp; omega) |>.mono (Nat.le_refl _)); have k5 := (hb5.cell (p := ⟨2, 0, none⟩) l1).trans c1)
    go_ret
    exact ⟨⟨_, rfl⟩, hb5⟩
end Go.Proofs.YtgjlnkciemdklaaDoor.fnConnectionIDCut
