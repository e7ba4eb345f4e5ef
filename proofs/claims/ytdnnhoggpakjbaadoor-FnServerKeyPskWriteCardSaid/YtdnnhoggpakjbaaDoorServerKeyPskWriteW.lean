/-
  THE WALK OF THE LAW FnServerKeyPskWrite: the Go text of the law, step by step: it returns true, and what was in memory stays as it was. For every argument of the law's own types.
-/
import Derived.Test.YtdnnhoggpakjbaaDoorSkB
namespace Go.Proofs.YtdnnhoggpakjbaaDoor.fnServerKeyPskWrite
open Go.ChangeShapes Go.WideShapes Go.ChangeAt Go.RowKit
open Go.ChangeMaps (open_string shut_string)
set_option linter.unusedVariables false
set_option linter.unusedSimpArgs false

set_option maxHeartbeats 4000000 in
set_option maxRecDepth 100000 in
theorem write_sk (s0 : ByteArray) (h0 : s0.size < 65536) (w : World) :
    Calls Tryd.prog 8 #[.agg (mC 12 2 s0 ⟨#[]⟩)] w fun e w' => e = .returned (.tuple #[.string ⟨(bigL s0.size 2 ++ s0.data.toList).toArray⟩, .bool true]) ∧ Below w.heap.size w w' := by
  have hM := Lib.hid (fun w1 => make_sk s0 (by omega) w1)
  have hMar := fun p g0 c0 u v w2 hX hB0 hg0 => mar_sk p g0 c0 s0.size u v s0.data.toList w2 hX hB0 (toList_size _) hg0 h0
  generalize (bigL s0.size 2 ++ s0.data.toList) = L at *
  have HMar := Lib.hid hMar
  clear hMar h0
  go_enter Tryd.func8, Tryd.ntmps8
  go_wp2_with (first
    | (refine wpList_box_blk _ rfl 33 (.tmp 0) rfl (mC 12 2 s0 ⟨#[]⟩) rfl ?_; intro w1 hM1 hb1 hz1)
    | (refine wpList_load_blk _ rfl 33 (.tmp 1) rfl w.heap.size 33 (mC 12 2 s0 ⟨#[]⟩) _ rfl hM1 Tryd.underlying33 rfl sMsg ?_))
  refine (hM.out _).mono ?_
  rintro e w2 ⟨p, g0, c0, u, v, rfl, hX2, hB0, hg0, hb2⟩
  have hb2' := hb1.trans (hb2.mono (Nat.le_of_lt hz1))
  have hM2 := Lib.hid (HMar.out p g0 c0 u v w2 hX2 hB0 hg0)
  clear hX2 hB0 hM1 hb1 hb2
  go_wp2_with fail
  refine hM2.out.mono ?_
  rintro e w3 ⟨k, cap, rfl, hB3, hb3⟩
  have hb3' := hb2'.trans (hb3.mono hb2'.size)
  have hT := Lib.hid (text_ok k 0 _ cap _ w3 rfl hB3)
  clear hB3 hb3 hb2'
  go_wp2_with fail
  refine hT.out.mono ?_
  rintro e w4 ⟨rfl, rfl⟩
  go_wp2_with fail
  go_ret2
  exact ⟨rfl, hb3'⟩

set_option maxHeartbeats 4000000 in
set_option maxRecDepth 100000 in
theorem walk (s0 : ByteArray) (w0 : s0.size ≤ maxLen) (w : World) (e0 : IsErr 77 w 3) :
    Calls Tryd.prog 4 #[.string s0] w fun e w' => e = .returned (.bool true) ∧ Below w.heap.size w w' := by
  clear e0
  by_cases hz : 2147483647 < (s0.size : Int)
  · go_enter Tryd.func4, Tryd.ntmps4
    go_wp2
    go_ret
    exact ⟨rfl, Below.refl _ _⟩
  by_cases p0 : 0 < s0.size
  case neg =>
    go_enter Tryd.func4, Tryd.ntmps4
    go_wp2
    go_ret
    exact ⟨rfl, Below.refl _ _⟩
  by_cases q0 : (s0.size : Int) < 60000
  case neg =>
    go_enter Tryd.func4, Tryd.ntmps4
    go_wp2
    go_ret
    exact ⟨rfl, Below.refl _ _⟩
  have hW := Lib.hid (write_sk s0 (by omega) w)
  have V0 := Lib.hid (fun w1 => vec_any s0 2 w1 (by omega) (by omega))
  generalize (⟨(bigL s0.size 2 ++ s0.data.toList).toArray⟩ : ByteArray) = a1 at *
  go_enter Tryd.func4, Tryd.ntmps4
  go_wp2_with (first
    | (refine wpList_build _ rfl 33 #[(0, .const (.int .u8 12)), (19, .const (.int .i64 2)), (17, .tmp 18)] rfl #[(0, .int .u8 12), (19, .int .i64 2), (17, .string s0)] rfl _ (buildM1 12 2 s0 _) ?_))
  refine hW.out.mono ?_
  rintro e w1 ⟨rfl, hb1⟩
  clear hz p0 q0
  go_wp2_with fail
  refine (V0.out _).mono ?_
  rintro e w2 ⟨rfl, hb2⟩
  have hb2' := hb1.trans (hb2.mono hb1.size)
  go_wp2_with fail
  go_ret
  exact ⟨rfl, hb2'⟩
end Go.Proofs.YtdnnhoggpakjbaaDoor.fnServerKeyPskWrite
