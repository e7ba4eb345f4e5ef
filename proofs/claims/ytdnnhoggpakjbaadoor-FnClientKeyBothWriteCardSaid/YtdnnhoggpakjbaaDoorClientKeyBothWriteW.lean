/-
  THE WALK OF THE LAW FnClientKeyBothWrite: the Go text of the law, step by step: it returns true, and what was in memory stays as it was. For every argument of the law's own types.
-/
import Derived.Test.YtdnnhoggpakjbaaDoorCkc
namespace Go.Proofs.YtdnnhoggpakjbaaDoor.fnClientKeyBothWrite
open Go.ChangeShapes Go.WideShapes Go.ChangeAt Go.RowKit
open Go.ChangeMaps (open_string shut_string)
set_option linter.unusedVariables false
set_option linter.unusedSimpArgs false

set_option maxHeartbeats 4000000 in
set_option maxRecDepth 100000 in
theorem write_ok (s0 s1 : ByteArray) (h0 : s0.size < 65536) (h1 : s1.size < 256) (w : World) :
    Calls Tryd.prog 6 #[.agg (mC 16 6 s0 s1)] w fun e w' => e = .returned (.tuple #[.string (⟨(bigL s0.size 2 ++ s0.data.toList).toArray⟩ ++ ⟨(bigL s1.size 1 ++ s1.data.toList).toArray⟩), .bool true]) ∧ Below w.heap.size w w' := by
  have hM := Lib.hid (fun w1 => make_ok s0 s1 (by omega) (by omega) w1)
  have hMar := fun p g0 c0 g1 c1 w2 hX hB0 hB1 hg0 hg1 => mar_ok p g0 c0 g1 c1 s0.size s1.size s0.data.toList s1.data.toList w2 hX hB0 hB1 (toList_size _) (toList_size _) hg0 hg1 h0 h1
  rw [show (⟨(bigL s0.size 2 ++ s0.data.toList).toArray⟩ ++ ⟨(bigL s1.size 1 ++ s1.data.toList).toArray⟩ : ByteArray) = ⟨((bigL s0.size 2 ++ s0.data.toList) ++ (bigL s1.size 1 ++ s1.data.toList)).toArray⟩ from str_app2 _ _]
  generalize ((bigL s0.size 2 ++ s0.data.toList) ++ (bigL s1.size 1 ++ s1.data.toList)) = L at *
  have HMar := Lib.hid hMar
  clear hMar h0 h1
  go_enter Tryd.func6, Tryd.ntmps6
  go_wp2_with (first
    | (refine wpList_box_blk _ rfl 33 (.tmp 0) rfl (mC 16 6 s0 s1) rfl ?_; intro w1 hM1 hb1 hz1)
    | (refine wpList_load_blk _ rfl 33 (.tmp 1) rfl w.heap.size 33 (mC 16 6 s0 s1) _ rfl hM1 Tryd.underlying33 rfl sMsg ?_))
  refine (hM.out _).mono ?_
  rintro e w2 ⟨p, g0, c0, g1, c1, rfl, hX2, hB0, hB1, hg0, hg1, hb2⟩
  have hb2' := hb1.trans (hb2.mono (Nat.le_of_lt hz1))
  have hM2 := Lib.hid (HMar.out p g0 c0 g1 c1 w2 hX2 hB0 hB1 hg0 hg1)
  clear hX2 hB0 hB1 hM1 hb1 hb2
  go_wp2_with fail
  refine hM2.out.mono ?_
  rintro e w3 ⟨k, cap, rfl, hB3, hb3⟩
  have hb3' := hb2'.trans (hb3.mono hb2'.size)
  have hT := Lib.hid (text_ok k 0 _ cap _ w3 rfl hB3)
  clear hB3 hb3 hb2'
  go_wp2_with fail
  refine hT.out.mono ?_
  rintro e w4 ⟨rfl, rfl⟩
  go_wp2_with fail
  go_ret2
  exact ⟨rfl, hb3'⟩

set_option maxHeartbeats 4000000 in
set_option maxRecDepth 100000 in
theorem walk (s0 : ByteArray) (w0 : s0.size ≤ maxLen) (s1 : ByteArray) (w1 : s1.size ≤ maxLen) (w : World) (e0 : IsErr 77 w 0) (e1 : IsErr 77 w 2) :
    Calls Tryd.prog 3 #[.string s0, .string s1] w fun e w' => e = .returned (.bool true) ∧ Below w.heap.size w w' := by
  clear e0 e1
  by_cases hz : 2147483647 < (s0.size : Int)
  · go_enter Tryd.func3, Tryd.ntmps3
    go_wp2
    go_ret
    exact ⟨rfl, Below.refl _ _⟩
  by_cases hz1 : 2147483647 < (s1.size : Int)
  · go_enter Tryd.func3, Tryd.ntmps3
    go_wp2
    go_ret
    exact ⟨rfl, Below.refl _ _⟩
  by_cases p1 : 0 < s1.size
  case neg =>
    go_enter Tryd.func3, Tryd.ntmps3
    go_wp2
    go_ret
    exact ⟨rfl, Below.refl _ _⟩
  by_cases q1 : (s1.size : Int) < 256
  case neg =>
    go_enter Tryd.func3, Tryd.ntmps3
    go_wp2
    go_ret
    exact ⟨rfl, Below.refl _ _⟩
  by_cases p0 : 0 < s0.size
  case neg =>
    go_enter Tryd.func3, Tryd.ntmps3
    go_wp2
    go_ret
    exact ⟨rfl, Below.refl _ _⟩
  by_cases q0 : (s0.size : Int) < 60000
  case neg =>
    go_enter Tryd.func3, Tryd.ntmps3
    go_wp2
    go_ret
    exact ⟨rfl, Below.refl _ _⟩
  have hW := Lib.hid (write_ok s0 s1 (by omega) (by omega) w)
  have V0 := Lib.hid (fun w1 => vec_any s0 2 w1 (by omega) (by omega))
  have V1 := Lib.hid (fun w1 => vec_any s1 1 w1 (by omega) (by omega))
  have vs : ∀ (s : ByteArray) (k : Nat), k ≤ 8 → s.size < 60000 → (⟨(bigL s.size k ++ s.data.toList).toArray⟩ : ByteArray).size < 4294967296 := by
    intro s k hk hs
    rw [← toList_size]
    show (bigL s.size k ++ s.data.toList).length < 4294967296
    rw [List.length_append, bigL_length, toList_size]
    omega
  have ha1 := vs s0 2 (by omega) (by omega)
  have ha2 := vs s1 1 (by omega) (by omega)
  clear vs
  generalize (⟨(bigL s0.size 2 ++ s0.data.toList).toArray⟩ : ByteArray) = a1 at *
  generalize (⟨(bigL s1.size 1 ++ s1.data.toList).toArray⟩ : ByteArray) = a2 at *
  have HA := Lib.hid (And.intro ha1 ha2)
  clear ha1 ha2
  go_enter Tryd.func3, Tryd.ntmps3
  go_wp2_with (first
    | (refine wpList_build _ rfl 33 #[(0, .const (.int .u8 16)), (19, .const (.int .i64 6)), (17, .tmp 35), (18, .tmp 36)] rfl #[(0, .int .u8 16), (19, .int .i64 6), (17, .string s0), (18, .string s1)] rfl _ (buildM2 16 6 s0 s1 _) ?_))
  refine hW.out.mono ?_
  rintro e w1 ⟨rfl, hb1⟩
  clear hz hz1 p0 p1 q0 q1
  obtain ⟨ha1, ha2⟩ := HA.out
  go_wp2_with fail
  refine (V0.out _).mono ?_
  rintro e w2 ⟨rfl, hb2⟩
  have hb2' := hb1.trans (hb2.mono hb1.size)
  go_wp2_with fail
  refine (V1.out _).mono ?_
  rintro e w3 ⟨rfl, hb3⟩
  have hb3' := hb2'.trans (hb3.mono hb2'.size)
  go_wp2_with fail
  go_ret
  exact ⟨rfl, hb3'⟩
end Go.Proofs.YtdnnhoggpakjbaaDoor.fnClientKeyBothWrite
