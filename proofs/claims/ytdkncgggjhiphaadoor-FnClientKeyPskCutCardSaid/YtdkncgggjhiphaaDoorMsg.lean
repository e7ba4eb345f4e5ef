/-
  CLOSED FACTS ON THE STRUCT impl.Message: its zero value, its size, the cells of a message without lists. No condition.
-/
import Derived.Test.YtdkncgggjhiphaaDoorBlk
import Derived.Test.YtdkncgggjhiphaaDoorMem
namespace Go.Proofs.YtdkncgggjhiphaaDoor
set_option linter.unusedSimpArgs false
set_option linter.unusedVariables false
open Go.RowKit

/-- The cells of a message without lists. -/
def msgC (t : Int) (v13 : Bool) (maj min : Int) (time : Int) (random cookie session : ByteArray) (hash sig : Int) (signature hint pub : ByteArray) (kx ctype curve : Int) (verify context : ByteArray) : Array Value :=
  #[.int .u8 t, .bool v13, .int .u8 maj, .int .u8 min, .int .u32 time, .string random, .string cookie, .string session, .slice none 0 0, .slice none 0 0, .slice none 0 0, .slice none 0 0, .slice none 0 0, .slice none 0 0,
    .int .u16 hash, .int .u16 sig, .string signature, .string hint, .string pub, .int .i64 kx, .int .u8 ctype, .int .u16 curve, .string verify, .string context, .slice none 0 0]
def zeroM : Array Value := msgC 0 false 0 0 0 ⟨#[]⟩ ⟨#[]⟩ ⟨#[]⟩ 0 0 ⟨#[]⟩ ⟨#[]⟩ ⟨#[]⟩ 0 0 0 ⟨#[]⟩ ⟨#[]⟩
/-- A message that is all zero but for its type. -/
def typeM (t : Int) : Array Value := msgC t false 0 0 0 ⟨#[]⟩ ⟨#[]⟩ ⟨#[]⟩ 0 0 ⟨#[]⟩ ⟨#[]⟩ ⟨#[]⟩ 0 0 0 ⟨#[]⟩ ⟨#[]⟩
theorem zM : (Tryd.prog.info? 35).map (·.zero) = some (some (.agg zeroM)) := by kernel_rfl
theorem sM : (Tryd.prog.info? 35).map (·.size) = some 25 := by kernel_rfl
theorem build0M (w : World) : (Instr.build 35 #[]).run Tryd.prog w = .ok (.agg zeroM) w := by kernel_rfl
theorem buildTM (t : Int) (w : World) : (Instr.build 35 #[(0, .int .u8 t)]).run Tryd.prog w = .ok (.agg (typeM t)) w := by kernel_rfl
theorem msgC_one (t : Int) (v13 : Bool) (maj min : Int) (time : Int) (random cookie session : ByteArray) (hash sig : Int) (signature hint pub : ByteArray) (kx ctype curve : Int) (verify context : ByteArray) :
    (msgC t v13 maj min time random cookie session hash sig signature hint pub kx ctype curve verify context).all (·.oneCell') = true := by simp [msgC, Value.oneCell']
theorem zeroM_one : zeroM.all (·.oneCell') = true := msgC_one _ _ _ _ _ _ _ _ _ _ _ _ _ _ _ _ _ _
theorem typeM_one (t : Int) : (typeM t).all (·.oneCell') = true := msgC_one _ _ _ _ _ _ _ _ _ _ _ _ _ _ _ _ _ _
end Go.Proofs.YtdkncgggjhiphaaDoor
