/-
  CLOSED FACTS ON THE STRUCT impl.Extension: its zero value, its size, its literals' cells. No condition.
-/
import Derived.Test.YtgjlnkciemdklaaDoorSameExt
import Derived.Test.YtgjlnkciemdklaaDoorMem
namespace Go.Proofs.YtgjlnkciemdklaaDoor
set_option linter.unusedSimpArgs false
set_option linter.unusedVariables false
open Go.RowKit

/-- An extension without lists. -/
def ext0 (t : Int) (text : ByteArray) (flag : Bool) (number : Int) (has : Bool) : Array Value :=
  extC t text flag number has (.slice none 0 0) (.slice none 0 0) (.slice none 0 0) (.slice none 0 0) (.slice none 0 0) (.slice none 0 0) (.slice none 0 0) (.slice none 0 0)
def zeroExt : Array Value := ext0 0 ⟨#[]⟩ false 0 false
theorem zext : (Tryd.prog.info? 39).map (·.zero) = some (some (.agg zeroExt)) := by kernel_rfl
theorem sext : (Tryd.prog.info? 39).map (·.size) = some 13 := by kernel_rfl
theorem build0Ext (w : World) : (Instr.build 39 #[]).run Tryd.prog w = .ok (.agg zeroExt) w := by kernel_rfl
theorem buildT (t : Int) (w : World) : (Instr.build 39 #[(0, .int .u16 t)]).run Tryd.prog w = .ok (.agg (ext0 t ⟨#[]⟩ false 0 false)) w := by kernel_rfl
theorem buildTText (t : Int) (s : ByteArray) (w : World) : (Instr.build 39 #[(0, .int .u16 t), (1, .string s)]).run Tryd.prog w = .ok (.agg (ext0 t s false 0 false)) w := by kernel_rfl
theorem buildTNum (t n : Int) (w : World) : (Instr.build 39 #[(0, .int .u16 t), (6, .int .u32 n)]).run Tryd.prog w = .ok (.agg (ext0 t ⟨#[]⟩ false n false)) w := by kernel_rfl
theorem ext0_one (t : Int) (text : ByteArray) (flag : Bool) (number : Int) (has : Bool) : (ext0 t text flag number has).all (·.oneCell') = true := by simp [ext0, extC, Value.oneCell']
theorem extC_one (t : Int) (text : ByteArray) (flag : Bool) (number : Int) (has : Bool) (a b c d e f g h : Value) (ha : a.oneCell' = true) (hb : b.oneCell' = true) (hc : c.oneCell' = true) (hd : d.oneCell' = true) (he : e.oneCell' = true) (hf : f.oneCell' = true) (hg : g.oneCell' = true) (hh : h.oneCell' = true) :
    (extC t text flag number has a b c d e f g h).all (·.oneCell') = true := by
  simp [extC, ha, hb, hc, hd, he, hf, hg, hh]
  simp [Value.oneCell']
end Go.Proofs.YtgjlnkciemdklaaDoor
