/-
  THE CONTRACT OF sameExt of package laws: two extensions whose plain fields are equal and whose lists are found equal, list by list, are found equal; memory that was there stays as it was.
-/
import Derived.Test.YtgjlnkciemdklaaDoorBlk
namespace Go.Proofs.YtgjlnkciemdklaaDoor
set_option linter.unusedSimpArgs false
set_option linter.unusedVariables false
open Go.RowKit

theorem listStr_nil (f : Value) (w : World) : Calls Tryd.prog 52 #[.slice none 0 0, .slice none 0 0, f] w fun e w' => e = .returned (.bool true) ∧ Below w.heap.size w w' := by
  go_enter Tryd.func52, Tryd.ntmps52
  go_wp2
  refine wp_loop_rounds 1 ?_
  rw [rounds_succ]
  go_wp2
  go_ret
  exact ⟨rfl, Below.refl _ _⟩

theorem listU16_nil (f : Value) (w : World) : Calls Tryd.prog 54 #[.slice none 0 0, .slice none 0 0, f] w fun e w' => e = .returned (.bool true) ∧ Below w.heap.size w w' := by
  go_enter Tryd.func54, Tryd.ntmps54
  go_wp2
  refine wp_loop_rounds 1 ?_
  rw [rounds_succ]
  go_wp2
  go_ret
  exact ⟨rfl, Below.refl _ _⟩

theorem listPair_nil (f : Value) (w : World) : Calls Tryd.prog 56 #[.slice none 0 0, .slice none 0 0, f] w fun e w' => e = .returned (.bool true) ∧ Below w.heap.size w w' := by
  go_enter Tryd.func56, Tryd.ntmps56
  go_wp2
  refine wp_loop_rounds 1 ?_
  rw [rounds_succ]
  go_wp2
  go_ret
  exact ⟨rfl, Below.refl _ _⟩

theorem listShare_nil (f : Value) (w : World) : Calls Tryd.prog 58 #[.slice none 0 0, .slice none 0 0, f] w fun e w' => e = .returned (.bool true) ∧ Below w.heap.size w w' := by
  go_enter Tryd.func58, Tryd.ntmps58
  go_wp2
  refine wp_loop_rounds 1 ?_
  rw [rounds_succ]
  go_wp2
  go_ret
  exact ⟨rfl, Below.refl _ _⟩

theorem listIdentity_nil (f : Value) (w : World) : Calls Tryd.prog 60 #[.slice none 0 0, .slice none 0 0, f] w fun e w' => e = .returned (.bool true) ∧ Below w.heap.size w w' := by
  go_enter Tryd.func60, Tryd.ntmps60
  go_wp2
  refine wp_loop_rounds 1 ?_
  rw [rounds_succ]
  go_wp2
  go_ret
  exact ⟨rfl, Below.refl _ _⟩

theorem listFilter_nil (f : Value) (w : World) : Calls Tryd.prog 62 #[.slice none 0 0, .slice none 0 0, f] w fun e w' => e = .returned (.bool true) ∧ Below w.heap.size w w' := by
  go_enter Tryd.func62, Tryd.ntmps62
  go_wp2
  refine wp_loop_rounds 1 ?_
  rw [rounds_succ]
  go_wp2
  go_ret
  exact ⟨rfl, Below.refl _ _⟩

/-- The cells of an extension. -/
def extC (t : Int) (text : ByteArray) (flag : Bool) (number : Int) (has : Bool) (vList vNumbers vPairs vShares vServer vGroup vIdentities vFilters : Value) : Array Value :=
  #[.int .u16 t, .string text, vList, vNumbers, vPairs, .bool flag, .int .u32 number, .bool has, vShares, vServer, vGroup, vIdentities, vFilters]
/-- The comparison of one list answers yes, wherever what was there is kept. -/
def Yes (w : World) (f g : FuncId) (x y : Value) : Prop := ∀ wx : World, Below w.heap.size w wx → Calls Tryd.prog f #[x, y, .func (.func g) #[] #[]] wx fun e w' => e = .returned (.bool true) ∧ Below wx.heap.size wx w'

theorem listStr_yes (w : World) : Yes w 52 53 (.slice none 0 0) (.slice none 0 0) := fun wx _ => listStr_nil _ wx
theorem listU16_yes (w : World) : Yes w 54 55 (.slice none 0 0) (.slice none 0 0) := fun wx _ => listU16_nil _ wx
theorem listPair_yes (w : World) : Yes w 56 57 (.slice none 0 0) (.slice none 0 0) := fun wx _ => listPair_nil _ wx
theorem listShare_yes (w : World) : Yes w 58 59 (.slice none 0 0) (.slice none 0 0) := fun wx _ => listShare_nil _ wx
theorem listIdentity_yes (w : World) : Yes w 60 61 (.slice none 0 0) (.slice none 0 0) := fun wx _ => listIdentity_nil _ wx
theorem listFilter_yes (w : World) : Yes w 62 63 (.slice none 0 0) (.slice none 0 0) := fun wx _ => listFilter_nil _ wx

set_option maxRecDepth 100000 in
set_option maxHeartbeats 8000000 in
theorem same_ext (t : Int) (text : ByteArray) (flag : Bool) (number : Int) (has : Bool) (xList xNumbers xPairs xShares xServer xGroup xIdentities xFilters yList yNumbers yPairs yShares yServer yGroup yIdentities yFilters : Value) (w : World) (hList : Yes w 52 53 xList yList) (hNumbers : Yes w 54 55 xNumbers yNumbers) (hPairs : Yes w 56 57 xPairs yPairs) (hShares : Yes w 58 59 xShares yShares) (hServer : Yes w 58 59 xServer yServer) (hGroup : Yes w 54 55 xGroup yGroup) (hIdentities : Yes w 60 61 xIdentities yIdentities) (hFilters : Yes w 62 63 xFilters yFilters) :
    Calls Tryd.prog 26 #[.agg (extC t text flag number has xList xNumbers xPairs xShares xServer xGroup xIdentities xFilters), .agg (extC t text flag number has yList yNumbers yPairs yShares yServer yGroup yIdentities yFilters)] w fun e w' => e = .returned (.bool true) ∧ Below w.heap.size w w' := by
  unfold extC
  have HList := Lib.hid hList
  have HNumbers := Lib.hid hNumbers
  have HPairs := Lib.hid hPairs
  have HShares := Lib.hid hShares
  have HServer := Lib.hid hServer
  have HGroup := Lib.hid hGroup
  have HIdentities := Lib.hid hIdentities
  have HFilters := Lib.hid hFilters
  clear hList hNumbers hPairs hShares hServer hGroup hIdentities hFilters
  go_enter Tryd.func26, Tryd.ntmps26
  go_wp2_with (first
    | (refine wpList_box_blk (o := ⟨some 2, _, _, _, _, _⟩) _ rfl 39 (.tmp 0) rfl #[.int .u16 t, .string text, xList, xNumbers, xPairs, .bool flag, .int .u32 number, .bool has, xShares, xServer, xGroup, xIdentities, xFilters] rfl ?_; intro w1 hA1 hb1 hz1)
    | (refine wpList_box_blk (o := ⟨some 3, _, _, _, _, _⟩) _ rfl 39 (.tmp 1) rfl #[.int .u16 t, .string text, yList, yNumbers, yPairs, .bool flag, .int .u32 number, .bool has, yShares, yServer, yGroup, yIdentities, yFilters] rfl ?_; intro w2 hB2 hb2 hz2; have hA2 := hA1.below hb2 hz1; have hW2 : Below w.heap.size w w2 := hb1.trans (hb2.mono (Nat.le_of_lt hz1)); have cA2 := hA2.cell; have cB2 := hB2.cell; clear hA1 hb1 hb2))
  refine (HList.out _ hW2).mono ?_
  rintro e w3 ⟨rfl, hb3⟩
  have hA3 := hA2.below hb3 hA2.lt
  have hB3 := hB2.below hb3 hB2.lt
  have hW3 := hW2.trans (hb3.mono hW2.size)
  have cA3 := hA3.cell
  have cB3 := hB3.cell
  clear hA2 hB2 hW2 cA2 cB2 hb3
  go_wp2_with fail
  refine (HNumbers.out _ hW3).mono ?_
  rintro e w4 ⟨rfl, hb4⟩
  have hA4 := hA3.below hb4 hA3.lt
  have hB4 := hB3.below hb4 hB3.lt
  have hW4 := hW3.trans (hb4.mono hW3.size)
  have cA4 := hA4.cell
  have cB4 := hB4.cell
  clear hA3 hB3 hW3 cA3 cB3 hb4
  go_wp2_with fail
  refine (HPairs.out _ hW4).mono ?_
  rintro e w5 ⟨rfl, hb5⟩
  have hA5 := hA4.below hb5 hA4.lt
  have hB5 := hB4.below hb5 hB4.lt
  have hW5 := hW4.trans (hb5.mono hW4.size)
  have cA5 := hA5.cell
  have cB5 := hB5.cell
  clear hA4 hB4 hW4 cA4 cB4 hb5
  go_wp2_with fail
  refine (HShares.out _ hW5).mono ?_
  rintro e w6 ⟨rfl, hb6⟩
  have hA6 := hA5.below hb6 hA5.lt
  have hB6 := hB5.below hb6 hB5.lt
  have hW6 := hW5.trans (hb6.mono hW5.size)
  have cA6 := hA6.cell
  have cB6 := hB6.cell
  clear hA5 hB5 hW5 cA5 cB5 hb6
  go_wp2_with fail
  refine (HServer.out _ hW6).mono ?_
  rintro e w7 ⟨rfl, hb7⟩
  have hA7 := hA6.below hb7 hA6.lt
  have hB7 := hB6.below hb7 hB6.lt
  have hW7 := hW6.trans (hb7.mono hW6.size)
  have cA7 := hA7.cell
  have cB7 := hB7.cell
  clear hA6 hB6 hW6 cA6 cB6 hb7
  go_wp2_with fail
  refine (HGroup.out _ hW7).mono ?_
  rintro e w8 ⟨rfl, hb8⟩
  have hA8 := hA7.below hb8 hA7.lt
  have hB8 := hB7.below hb8 hB7.lt
  have hW8 := hW7.trans (hb8.mono hW7.size)
  have cA8 := hA8.cell
  have cB8 := hB8.cell
  clear hA7 hB7 hW7 cA7 cB7 hb8
  go_wp2_with fail
  refine (HIdentities.out _ hW8).mono ?_
  rintro e w9 ⟨rfl, hb9⟩
  have hA9 := hA8.below hb9 hA8.lt
  have hB9 := hB8.below hb9 hB8.lt
  have hW9 := hW8.trans (hb9.mono hW8.size)
  have cA9 := hA9.cell
  have cB9 := hB9.cell
  clear hA8 hB8 hW8 cA8 cB8 hb9
  go_wp2_with fail
  refine (HFilters.out _ hW9).mono ?_
  rintro e w10 ⟨rfl, hb10⟩
  have hA10 := hA9.below hb10 hA9.lt
  have hB10 := hB9.below hb10 hB9.lt
  have hW10 := hW9.trans (hb10.mono hW9.size)
  have cA10 := hA10.cell
  have cB10 := hB10.cell
  clear hA9 hB9 hW9 cA9 cB9 hb10
  go_wp2_with fail
  go_ret
  exact ⟨rfl, hW10⟩

/-- Two extensions without lists. -/
theorem same_ext0 (t : Int) (text : ByteArray) (flag : Bool) (number : Int) (has : Bool) (w : World) :
    Calls Tryd.prog 26 #[.agg (extC t text flag number has (.slice none 0 0) (.slice none 0 0) (.slice none 0 0) (.slice none 0 0) (.slice none 0 0) (.slice none 0 0) (.slice none 0 0) (.slice none 0 0)), .agg (extC t text flag number has (.slice none 0 0) (.slice none 0 0) (.slice none 0 0) (.slice none 0 0) (.slice none 0 0) (.slice none 0 0) (.slice none 0 0) (.slice none 0 0))] w fun e w' => e = .returned (.bool true) ∧ Below w.heap.size w w' :=
  same_ext t text flag number has _ _ _ _ _ _ _ _ _ _ _ _ _ _ _ _ w (listStr_yes w) (listU16_yes w) (listPair_yes w) (listShare_yes w) (listShare_yes w) (listU16_yes w) (listIdentity_yes w) (listFilter_yes w)
end Go.Proofs.YtgjlnkciemdklaaDoor
