/-
  THE WALK OF THE LAW FnInnerBack: the Go text of the law, step by step: it returns true, and what was in memory stays as it was. For every argument of the law's own types.
-/
import Derived.Test.YtgjlnkciemdklaaDoorInnerB
namespace Go.Proofs.YtgjlnkciemdklaaDoor.fnInnerBack
open Go.ChangeShapes Go.WideShapes Go.ChangeAt Go.RowKit
open Go.ChangeMaps (open_string shut_string)
set_option linter.unusedVariables false
set_option linter.unusedSimpArgs false

set_option maxHeartbeats 4000000 in
set_option maxRecDepth 100000 in
theorem walk (s0 : ByteArray) (w0 : s0.size ≤ maxLen) (n1 : Int) (w1 : (Lit.int .u8 n1).wf = true) (n2 : Int) (w2 : (Lit.int .u64 n2).wf = true) (w : World) (e0 : IsErr 206 w 0) :
    Calls Tryd.prog 3 #[.string s0, .int .u8 n1, .int .u64 n2] w fun e w' => e = .returned (.bool true) ∧ Below w.heap.size w w' := by
  clear e0
  have bd1 : 0 ≤ n1 ∧ n1 ≤ 255 := bounds_u8 w1
  have bd2 : 0 ≤ n2 ∧ n2 ≤ 18446744073709551615 := bounds_u64 w2
  clear w1 w2
  by_cases hz : 2147483647 < (s0.size : Int)
  · clear bd2
    go_enter Tryd.func3, Tryd.ntmps3
    go_wp2
    go_ret
    exact ⟨rfl, Below.refl _ _⟩
  · by_cases h1 : n1 = 0
    · subst h1
      clear bd2
      go_enter Tryd.func3, Tryd.ntmps3
      go_wp2
      go_ret
      exact ⟨rfl, Below.refl _ _⟩
    · have h1b : (n1 == 0) = false := by simpa using h1
      by_cases h2 : 5000 < n2
      · clear bd2
        go_enter Tryd.func3, Tryd.ntmps3
        go_wp2
        go_ret
        exact ⟨rfl, Below.refl _ _⟩
      · obtain ⟨z, rfl⟩ := Int.eq_ofNat_of_zero_le bd2.1
        have hx0 : (UInt8.ofNat n1.toNat).toNat = n1.toNat := by
          rw [UInt8.toNat_ofNat']
          omega
        obtain ⟨x, hx⟩ : ∃ x : UInt8, (x.toNat : Int) = n1 := ⟨UInt8.ofNat n1.toNat, by rw [hx0]; omega⟩
        subst hx
        have hxn : x ≠ 0 := by
          intro h
          apply h1
          rw [h]
          rfl
        have hll := toList_size s0
        have HW := Lib.hid (write_ok s0 x z w (by omega) (by omega))
        have HR := Lib.hid (fun w1 => read_ok x z s0.data.toList ⟨(innL s0.data.toList x z).toArray⟩ w1 rfl (by omega) (by omega) hxn)
        have hsz : ((⟨(innL s0.data.toList x z).toArray⟩ : ByteArray).size : Int) = s0.size + 1 + z := by
          rw [← toList_size]
          show ((innL s0.data.toList x z).length : Int) = _
          rw [innL_length, hll]
          omega
        rw [show (⟨s0.data.toList.toArray⟩ : ByteArray) = s0 from eta_bytes s0] at HR
        generalize (⟨(innL s0.data.toList x z).toArray⟩ : ByteArray) = r at *
        have hw1 : wrap64 ((s0.size : Int) + 1) = (s0.size : Int) + 1 := wrap64_of _ (by omega) (by omega)
        have hw2 : wrap64 ((s0.size : Int) + 1 + z) = (s0.size : Int) + 1 + z := wrap64_of _ (by omega) (by omega)
        have hw3 : IntKind.i64.wrap (z : Int) = z := by rw [IntKind.wrap_i64]; omega
        have hz2 : (z : Int) ≤ 5000 := by omega
        clear hll bd2
        go_enter Tryd.func3, Tryd.ntmps3
        go_wp2_with fail
        refine HW.out.mono ?_
        rintro e w1 ⟨rfl, hb1⟩
        go_wp2_with fail
        refine (HR.out _).mono ?_
        rintro e w2 ⟨rfl, hb2⟩
        have hb2' := hb1.trans (hb2.mono hb1.size)
        go_wp2_with fail
        go_ret
        exact ⟨rfl, hb2'⟩
end Go.Proofs.YtgjlnkciemdklaaDoor.fnInnerBack
