/-
  THE WALK OF THE LAW FnServerNameRefused: the Go text of the law, step by step: it returns true, and what was in memory stays as it was. For every argument of the law's own types.
-/
import Derived.Test.YtgjlnkciemdklaaDoorSnameC
namespace Go.Proofs.YtgjlnkciemdklaaDoor.fnServerNameRefused
open Go.ChangeShapes Go.WideShapes Go.ChangeAt Go.RowKit
open Go.ChangeMaps (open_string shut_string)
set_option linter.unusedVariables false
set_option linter.unusedSimpArgs false

open fnServerNameCut
theorem dot_last (s : ByteArray) (h : (s ++ ⟨#[46]⟩).size - 1 < (s ++ ⟨#[46]⟩).size) : ((s ++ ⟨#[46]⟩)[(s ++ ⟨#[46]⟩).size - 1]'h == 46) = true := by
  have e : ∀ (t : ByteArray) (i : Nat) (hi : i < t.size), t[i]'hi = t.data.toList[i]'(by rw [toList_size]; exact hi) := fun t i hi => rfl
  rw [e]
  have hd : (s ++ ⟨#[46]⟩ : ByteArray).data.toList = s.data.toList ++ [46] := by simp [ByteArray.data_append]
  have hs : (s ++ ⟨#[46]⟩ : ByteArray).size = s.size + 1 := by rw [← toList_size, hd]; simp
  have : (s ++ ⟨#[46]⟩ : ByteArray).data.toList[(s ++ ⟨#[46]⟩ : ByteArray).size - 1]? = some 46 := by
    rw [hd, hs, List.getElem?_append_right (by rw [toList_size]; omega)]
    simp
  rw [List.getElem?_eq_some_iff] at this
  obtain ⟨_, h⟩ := this
  rw [h]
  rfl

set_option maxHeartbeats 8000000 in
set_option maxRecDepth 100000 in
theorem walk (s0 : ByteArray) (w0 : s0.size ≤ maxLen) (w : World) (e0 : IsErr 206 w 2) (e1 : IsErr 206 w 1) (e2 : IsErr 206 w 13) (e3 : IsErr 206 w 5) :
    Calls Tryd.prog 9 #[.string s0] w fun e w' => e = .returned (.bool true) ∧ Below w.heap.size w w' := by
  clear e0 e1 e3
  by_cases hz : 2147483647 < (s0.size : Int)
  · go_enter Tryd.func9, Tryd.ntmps9
    go_wp2
    go_ret
    exact ⟨rfl, Below.refl _ _⟩
  · by_cases h1 : (s0.size : Int) < 1
    · go_enter Tryd.func9, Tryd.ntmps9
      go_wp2
      go_ret
      exact ⟨rfl, Below.refl _ _⟩
    · by_cases h2 : 2000 < (s0.size : Int)
      · go_enter Tryd.func9, Tryd.ntmps9
        go_wp2
        go_ret
        exact ⟨rfl, Below.refl _ _⟩
      · have hlt : s0.size - 1 < s0.size := by omega
        have hw : wrap64 ((s0.size : Int) - 1) = (s0.size : Int) - 1 := wrap64_of _ (by omega) (by omega)
        have hp1 : (0 : Int) ≤ (s0.size : Int) - 1 := by omega
        have hp2 : (s0.size : Int) - 1 < s0.size := by omega
        by_cases hdot : s0[s0.size - 1]'hlt = 46
        · have hdb : (((s0[s0.size - 1]'hlt).toNat : Int) == 46) = true := by rw [hdot]; rfl
          clear hdot e2
          go_enter Tryd.func9, Tryd.ntmps9
          go_wp2_with fail
          go_ret
          exact ⟨rfl, Below.refl _ _⟩
        have hdb : (((s0[s0.size - 1]'hlt).toNat : Int) == 46) = false := by
          have hne : (s0[s0.size - 1]'hlt).toNat ≠ 46 := fun h => hdot (UInt8.toNat_inj.1 (by simpa using h))
          simp
          omega
        have hds : (s0 ++ ⟨#[46]⟩ : ByteArray).size = s0.size + 1 := by
          rw [← toList_size, show (s0 ++ ⟨#[46]⟩ : ByteArray).data.toList = s0.data.toList ++ [46] by simp [ByteArray.data_append]]
          simp
        have hdd := dot_last s0
        generalize hdg : (s0 ++ ⟨#[46]⟩ : ByteArray) = d at *
        have vs : ∀ s : ByteArray, s.size < 3000 → (⟨(bigL s.size 2 ++ s.data.toList).toArray⟩ : ByteArray).size < 4294967296 := by
          intro s hs
          rw [← toList_size]
          show (bigL s.size 2 ++ s.data.toList).length < 4294967296
          rw [List.length_append, bigL_length, toList_size]
          omega
        have fs : ∀ (s : ByteArray) (w1 : World), s.size < 3000 → Calls Tryd.prog 17 #[.int .u16 0, .string ⟨(snL s.data.toList).toArray⟩] w1 fun e w' => e = .returned (.string (ex 0 (snL s.data.toList))) ∧ Below w1.heap.size w1 w' := fun s w1 hs => framed_ex 0 (snL s.data.toList) w1 (by rw [snL_length, toList_size]; omega) (by omega)
        have hR1 : ∀ w1, Below w.heap.size w w1 → Calls Tryd.prog 30 #[.string (ex 0 (snL d.data.toList))] w1 fun e w' => e = .returned (.tuple #[.agg zeroExt, .bool false]) ∧ Below w1.heap.size w1 w' := fun w1 b => read d (ex 0 (snL d.data.toList)) true w1 rfl (by omega) (by omega) hdd (e2.below b e2.lt)
        have hR2 : ∀ w1, Below w.heap.size w w1 → Calls Tryd.prog 30 #[.string (ex 0 (snL s0.data.toList))] w1 fun e w' => e = .returned (.tuple #[.agg (ext0 0 s0 false 0 false), .bool true]) ∧ Below w1.heap.size w1 w' := fun w1 b => read s0 (ex 0 (snL s0.data.toList)) false w1 rfl (by omega) (by omega) (fun h => by simpa using hdot) (e2.below b e2.lt)
        have V1 := Lib.hid (fun w1 => vec_any d 2 w1 (by omega) (by omega))
        have V2 := Lib.hid (fun w1 => snL_vec d w1 (by omega))
        have F1 := Lib.hid (fun w1 => fs d w1 (by omega))
        have V3 := Lib.hid (fun w1 => vec_any s0 2 w1 (by omega) (by omega))
        have V4 := Lib.hid (fun w1 => snL_vec s0 w1 (by omega))
        have F2 := Lib.hid (fun w1 => fs s0 w1 (by omega))
        have R1 := Lib.hid hR1
        have R2 := Lib.hid hR2
        have ha1 := vs d (by omega)
        have hb1 := vs s0 (by omega)
        clear vs fs hR1 hR2 hdd hds hdot e2
        generalize ex 0 (snL d.data.toList) = r1 at *
        generalize ex 0 (snL s0.data.toList) = r2 at *
        generalize (⟨(snL d.data.toList).toArray⟩ : ByteArray) = a2 at *
        generalize (⟨(snL s0.data.toList).toArray⟩ : ByteArray) = b2 at *
        generalize (⟨(bigL d.size 2 ++ d.data.toList).toArray⟩ : ByteArray) = a1 at *
        generalize (⟨(bigL s0.size 2 ++ s0.data.toList).toArray⟩ : ByteArray) = b1 at *
        go_enter Tryd.func9, Tryd.ntmps9
        go_wp2_with fail
        refine (V1.out _).mono ?_
        rintro e w1 ⟨rfl, hw1⟩
        go_wp2_with fail
        refine (V2.out _).mono ?_
        rintro e w2 ⟨rfl, hw2⟩
        have hw2' := hw1.trans (hw2.mono hw1.size)
        go_wp2_with fail
        refine (F1.out _).mono ?_
        rintro e w3 ⟨rfl, hw3⟩
        have hw3' := hw2'.trans (hw3.mono hw2'.size)
        go_wp2_with fail
        refine (R1.out _ hw3').mono ?_
        rintro e w4 ⟨rfl, hw4⟩
        have hw4' := hw3'.trans (hw4.mono hw3'.size)
        clear hw1 hw2 hw3 hw4 hw2' hw3'
        go_wp2_with (first
          | (refine wpList_alloc_blk _ rfl 39 rfl zeroExt zext ?_; intro w5 hG5 hb5 hz5)
          | (refine wpList_store_blk _ rfl 39 (.tmp 3) (.tmp 34) rfl w4.heap.size 39 zeroExt zeroExt rfl rfl hG5 sext rfl (ext0_one _ _ _ _ _) ?_; intro w6 hG6 hg6))
        have hw6 : Below w.heap.size w w6 := hw4'.trans ((hb5.mono hw4'.size).trans ((below_grown hg6 (Nat.le_of_lt hz5)).mono hw4'.size))
        clear hb5 hz5 hG5 hG6 hg6 hw4'
        refine (V3.out _).mono ?_
        rintro e w7 ⟨rfl, hw7⟩
        have hw7' := hw6.trans (hw7.mono hw6.size)
        go_wp2_with fail
        refine (V4.out _).mono ?_
        rintro e w8 ⟨rfl, hw8⟩
        have hw8' := hw7'.trans (hw8.mono hw7'.size)
        go_wp2_with fail
        refine (F2.out _).mono ?_
        rintro e w9 ⟨rfl, hw9⟩
        have hw9' := hw8'.trans (hw9.mono hw8'.size)
        go_wp2_with fail
        refine (R2.out _ hw9').mono ?_
        rintro e w10 ⟨rfl, hw10⟩
        have hw10' := hw9'.trans (hw10.mono hw9'.size)
        clear hw6 hw7 hw8 hw9 hw10 hw7' hw8' hw9'
        go_wp2_with (first
          | (refine wpList_alloc_blk _ rfl 39 rfl zeroExt zext ?_; intro w11 hG11 hb11 hz11)
          | (refine wpList_store_blk _ rfl 39 (.tmp 5) (.tmp 43) rfl w10.heap.size 39 zeroExt (ext0 0 s0 false 0 false) rfl rfl hG11 sext rfl (ext0_one _ _ _ _ _) ?_; intro w12 hG12 hg12; have c1 := hG12.at 1 (.string s0) rfl))
        go_ret
        exact ⟨rfl, hw10'.trans ((hb11.mono hw10'.size).trans ((below_grown hg12 (Nat.le_of_lt hz11)).mono hw10'.size))⟩
end Go.Proofs.YtgjlnkciemdklaaDoor.fnServerNameRefused
