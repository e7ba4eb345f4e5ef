/-
  CONTRACTS of the functions that the law FnRenegotiationBack calls.
-/
import Derived.Test.YtdkncgggjhiphaaDoorBig
import Derived.Test.YtdkncgggjhiphaaDoorBlk
import Derived.Test.YtdkncgggjhiphaaDoorEnd16
import Derived.Deep.RegionWith
namespace Go.Proofs.YtdkncgggjhiphaaDoor.fnRenegotiationBack
open Go.ChangeShapes Go.WideShapes Go.ChangeAt Go.RowKit
set_option linter.unusedVariables false
set_option linter.unusedSimpArgs false
theorem tv_any (v : Value) (w : World) : Calls Tryd.prog 69 #[.agg #[v]] w fun e w' => e = .returned (.int .u16 65281) ∧ Below w.heap.size w w' := by
  go_enter Tryd.func69, Tryd.ntmps69
  go_wp2
  go_ret
  exact ⟨rfl, (Below.refl _ _).alloc (Nat.le_refl _) _⟩

set_option maxRecDepth 100000 in
set_option maxHeartbeats 1000000 in
theorem unm_ok (p b c x : Nat) (l : List UInt8) (w : World) (hX : Blk w p 89 #[.int .u8 0]) (hl : l.length = 5) (hB : Bytes w b 0 l) (hpb : p ≠ b) (hc : 5 ≤ c)
    (h0 : two l 0 = 65281) (h2 : two l 2 = 1) (h4 : (l.getD 4 0).toNat = x) :
    Calls Tryd.prog 41 #[.pointer (some ⟨p, 0, none⟩), .slice (some ⟨b, 0, none⟩) 5 c] w fun e w' => e = .returned .nilIface ∧ Blk w' p 89 #[.int .u8 x] ∧ w.grownBy w' (some p) := by
  have hp := hX.lt
  have x0 := hX.at 0 (.int .u8 0) rfl
  have hb := hB.lt (by omega)
  have D0 : ∀ wx, Below w.heap.size w wx → ∀ cc, Calls Tryd.prog 68 #[.agg #[], .slice (some ⟨b, 0, none⟩) 5 cc] wx fun e w' => e = .returned (.int .u16 65281) ∧ Below wx.heap.size wx w' := fun wx hbx cc => by
    have := be16_bytes b 0 5 cc l 0 wx (hB.below hbx hb) (by omega) (by omega) (by omega)
    rw [h0] at this
    exact this
  have D2 : ∀ wx, Below w.heap.size w wx → ∀ cc, Calls Tryd.prog 68 #[.agg #[], .slice (some ⟨b, 2, none⟩) 2 cc] wx fun e w' => e = .returned (.int .u16 1) ∧ Below wx.heap.size wx w' := fun wx hbx cc => by
    have := be16_bytes b 0 2 cc l 2 wx (hB.below hbx hb) (by omega) (by omega) (by omega)
    rw [h2] at this
    exact this
  have H0 := Lib.hid D0
  have H2 := Lib.hid D2
  have HB := Lib.hid hB
  have H4 := Lib.hid h4
  clear D0 D2 hB h0 h2 h4
  go_enter Tryd.func41, Tryd.ntmps41
  go_wp2
  go_region_with (first
    | (go_at_call 68; refine (H0.out _ ((Below.refl _ _).drew) _).mono ?_; rintro e w1 ⟨rfl, hb1⟩; have x1 := (hb1.cell (p := ⟨p, 0, none⟩) hp).trans x0)
    | (go_at_call 69; refine (tv_any _ _).mono ?_; rintro e w2 ⟨rfl, hb2⟩))
  all_goals
    have hW : Below w.heap.size w w2 := ((Below.refl _ _).drew.trans hb1).trans (hb2.mono hb1.size)
    clear hb1 hb2 x1
    go_wp2
    go_region_with (go_at_call 68; refine (H2.out _ hW.drew _).mono ?_; rintro e w3 ⟨rfl, hb3⟩)
  all_goals
    have hW3 : Below w.heap.size w w3 := hW.drew.trans (hb3.mono hW.size)
    have hX3 := hX.below hW3 hp
    have z0 := hX3.at 0 (.int .u8 0) rfl
    have f0 := hX3.frozen 0
    have k4 := (HB.out.below hW3 hb).getD 4 (by omega)
    simp only [Nat.zero_add] at k4
    rw [H4.out] at k4
    clear hW hb3
    go_wp2
    go_ret
    exact ⟨rfl, hX3.set_ 0 _, grown_setCell (grown_below hW3 (some p)) 0 _⟩

end Go.Proofs.YtdkncgggjhiphaaDoor.fnRenegotiationBack
