/-
  THE WALK OF THE LAW FnConnectionIDCut: the Go text of the law, step by step: it returns true, and what was in memory stays as it was. For every argument of the law's own types.
-/
import Derived.Test.YtgjlnkciemdklaaDoorCidC
import Derived.Test.YtgjlnkciemdklaaDoorFramed
namespace Go.Proofs.YtgjlnkciemdklaaDoor.fnConnectionIDCut
open Go.ChangeShapes Go.WideShapes Go.ChangeAt Go.RowKit
open Go.ChangeMaps (open_string shut_string)
set_option linter.unusedVariables false
set_option linter.unusedSimpArgs false

/-- The identifier behind its length. -/
def cidL (s : ByteArray) : List UInt8 := bigL s.size 1 ++ s.data.toList
theorem cidL_length (s : ByteArray) : (cidL s).length = 1 + s.size := by
  unfold cidL
  rw [List.length_append, bigL_length, toList_size]
theorem cidL_num (s : ByteArray) (h : s.size < 256) : numOf (((ex 54 (cidL s)).data.toList.drop 4).take 1) = s.size := by
  rw [ex_drop]
  simp [cidL, bigL, numOf]
  omega

set_option maxHeartbeats 4000000 in
set_option maxRecDepth 100000 in
theorem walk (s0 : ByteArray) (w0 : s0.size ≤ maxLen) (n1 : Int) (w1 : (Lit.int .i64 n1).wf = true) (w : World) (e0 : IsErr 206 w 2) (e1 : IsErr 206 w 1) (e2 : IsErr 206 w 4) (e3 : IsErr 206 w 5) :
    Calls Tryd.prog 5 #[.string s0, .int .i64 n1] w fun e w' => e = .returned (.bool true) ∧ Below w.heap.size w w' := by
  clear e2 e3 w1
  by_cases hz : 2147483647 < (s0.size : Int)
  · go_enter Tryd.func5, Tryd.ntmps5
    go_wp2
    go_ret
    exact ⟨rfl, Below.refl _ _⟩
  · by_cases h1 : (s0.size : Int) < 256
    · have hl := cidL_length s0
      have hsz := ex_size 54 (cidL s0)
      have hbl : (cidL s0).length < 65536 := by omega
      have h2 := ex_two 54 (cidL s0) (by omega)
      have h3 := ex_num 54 (cidL s0) hbl
      have h4 := cidL_num s0 (by omega)
      have hcut := fun k => ex_cut 54 (cidL s0) k (by omega) hbl
      have H1 := Lib.hid (And.intro hsz (And.intro hl (And.intro h2 (And.intro h3 (And.intro h4 hcut)))))
      clear hsz h2 h3 h4 hcut
      have hV := vec_any s0 1 w (by omega) (by omega)
      have hF : ∀ w1, Calls Tryd.prog 17 #[.int .u16 54, .string ⟨(cidL s0).toArray⟩] w1 fun e w' => e = .returned (.string (ex 54 (cidL s0))) ∧ Below w1.heap.size w1 w' := fun w1 => framed_ex 54 (cidL s0) w1 (by omega) (by omega)
      change Calls Tryd.prog 20 #[.string s0, .int .i64 1] w fun e w' => e = .returned (.string ⟨(cidL s0).toArray⟩) ∧ Below w.heap.size w w' at hV
      clear hbl hl
      generalize hbd : cidL s0 = bd at *
      clear hbd
      generalize hr : ex 54 bd = r at *
      have HV := Lib.hid hV
      have HF := Lib.hid hF
      clear hV hF hr
      have hsz : (r.size : Int) = 5 + s0.size := by
        have := H1.out
        omega
      by_cases hlo : n1 < 1
      · clear H1 hsz
        go_enter Tryd.func5, Tryd.ntmps5
        go_wp2_with fail
        refine HV.out.mono ?_
        rintro e w1 ⟨rfl, hb1⟩
        go_wp2_with fail
        refine (HF.out _).mono ?_
        rintro e w2 ⟨rfl, hb2⟩
        go_wp2_with fail
        go_ret
        exact ⟨rfl, hb1.trans (hb2.mono hb1.size)⟩
      · by_cases hhi : (r.size : Int) < n1
        · clear H1 hsz
          go_enter Tryd.func5, Tryd.ntmps5
          go_wp2_with fail
          refine HV.out.mono ?_
          rintro e w1 ⟨rfl, hb1⟩
          go_wp2_with fail
          refine (HF.out _).mono ?_
          rintro e w2 ⟨rfl, hb2⟩
          go_wp2_with fail
          go_ret
          exact ⟨rfl, hb1.trans (hb2.mono hb1.size)⟩
        · obtain ⟨k, rfl⟩ := Int.eq_ofNat_of_zero_le (show 0 ≤ n1 by omega)
          have hrm : (r.size : Int) ≤ 261 := by omega
          have HZ := Lib.hid (And.intro hsz hrm)
          have hkr : k ≤ r.size := by omega
          have hk1 : 1 ≤ k := by omega
          clear hsz
          go_enter Tryd.func5, Tryd.ntmps5
          go_wp2_with fail
          refine HV.out.mono ?_
          rintro e w1 ⟨rfl, hb1⟩
          go_wp2_with fail
          refine (HF.out _).mono ?_
          rintro e w2 ⟨rfl, hb2⟩
          have hb12 := hb1.trans (hb2.mono hb1.size)
          clear hb1 hb2
          go_wp2_with fail
          have HR := read_yes r s0.size w2 (by have := HZ.out; omega) (by have := HZ.out; omega) H1.out.2.2.1 (by rw [H1.out.2.2.2.1]; exact H1.out.2.1) H1.out.2.2.2.2.1
          refine HR.mono ?_
          clear HR
          rintro e w3 ⟨⟨s', rfl⟩, hb3⟩
          have hb3' := hb12.trans (hb3.mono hb12.size)
          clear hb3 hb12
          go_wp2_with (first
            | (refine wpList_alloc_blk _ rfl 39 rfl zeroExt zext ?_; intro w4 hG4 hb4 hz4)
            | (refine wpList_store_blk _ rfl 39 (.tmp 6) (.tmp 31) rfl w3.heap.size 39 zeroExt (ext0 54 s' false 0 false) rfl rfl hG4 sext rfl (ext0_one _ _ _ _ _) ?_; intro w5 hG5 hg5))
          have hb5 : Below w.heap.size w w5 := hb3'.trans ((hb4.mono hb3'.size).trans (below_grown hg5 (Nat.le_of_lt hz4) |>.mono hb3'.size))
          have hcs := cut_size r (r.size - k) (by omega)
          have hno := H1.out.2.2.2.2.2 (r.size - k) (by have := H1.out.1; omega)
          have hb5' := hb5
          refine (read_no _ w5 (by omega) hno (e1.below hb5 e1.lt) (e0.below hb5 e0.lt)).mono ?_
          rintro e w6 ⟨rfl, hb6⟩
          have hb6' := hb5.trans (hb6.mono hb5.size)
          clear hcs hno
          go_wp2_with (first
            | (refine wpList_alloc_blk _ rfl 39 rfl zeroExt zext ?_; intro w7 hG7 hb7 hz7)
            | (refine wpList_store_blk _ rfl 39 (.tmp 8) (.tmp 41) rfl w6.heap.size 39 zeroExt zeroExt rfl rfl hG7 sext rfl (ext0_one _ _ _ _ _) ?_; intro w8 hG8 hg8))
          go_ret
          exact ⟨rfl, hb6'.trans ((hb7.mono hb6'.size).trans ((below_grown hg8 (Nat.le_of_lt hz7)).mono hb6'.size))⟩
    · go_enter Tryd.func5, Tryd.ntmps5
      go_wp2
      go_ret
      exact ⟨rfl, Below.refl _ _⟩
end Go.Proofs.YtgjlnkciemdklaaDoor.fnConnectionIDCut
