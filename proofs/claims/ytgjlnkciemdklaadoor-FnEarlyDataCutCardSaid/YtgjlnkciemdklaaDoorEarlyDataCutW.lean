/-
  THE WALK OF THE LAW FnEarlyDataCut: the Go text of the law, step by step: it returns true, and what was in memory stays as it was. For every argument of the law's own types.
-/
import Derived.Test.YtgjlnkciemdklaaDoorEarlyB
namespace Go.Proofs.YtgjlnkciemdklaaDoor.fnEarlyDataCut
open Go.ChangeShapes Go.WideShapes Go.ChangeAt Go.RowKit
open Go.ChangeMaps (open_string shut_string)
set_option linter.unusedVariables false
set_option linter.unusedSimpArgs false

set_option maxHeartbeats 1000000 in
set_option maxRecDepth 100000 in
theorem early_yes (n : Nat) (hn : n < 4294967296) (w : World) : Calls Tryd.prog 18 #[.int .u32 n, .bool true] w fun e w' => e = .returned (.string ⟨(bigL n 4).toArray⟩) ∧ Below w.heap.size w w' := by
  have HB := Lib.hid (big_any n 4 w (by omega) (by omega))
  have hni : (n : Int) < 4294967296 := by omega
  clear hn
  go_enter Tryd.func18, Tryd.ntmps18
  go_wp2_with fail
  refine HB.out.mono ?_
  rintro e w1 ⟨rfl, hb1⟩
  go_wp2_with fail
  go_ret
  exact ⟨rfl, hb1⟩
theorem early_no (n : Int) (w : World) : Calls Tryd.prog 18 #[.int .u32 n, .bool false] w fun e w' => e = .returned (.string ⟨([] : List UInt8).toArray⟩) ∧ Below w.heap.size w w' := by
  go_enter Tryd.func18, Tryd.ntmps18
  go_wp2
  go_ret
  exact ⟨rfl, Below.refl _ _⟩

set_option maxHeartbeats 4000000 in
set_option maxRecDepth 100000 in
theorem walk (n0 : Int) (w0 : (Lit.int .u32 n0).wf = true) (b1 : Bool) (n2 : Int) (w2 : (Lit.int .i64 n2).wf = true) (w : World) (e0 : IsErr 206 w 2) (e1 : IsErr 206 w 1) (e2 : IsErr 206 w 3) :
    Calls Tryd.prog 4 #[.int .u32 n0, .bool b1, .int .i64 n2] w fun e w' => e = .returned (.bool true) ∧ Below w.heap.size w w' := by
  clear e2 w2
  have bd0 : 0 ≤ n0 ∧ n0 ≤ 4294967295 := bounds_u32 w0
  obtain ⟨n, rfl⟩ := Int.eq_ofNat_of_zero_le bd0.1
  have hn : n < 4294967296 := by omega
  clear w0
  cases b1 with
  | true =>
    have HV0 := early_yes n hn w
    clear bd0 hn
    have hbl : (bigL n 4).length = 0 ∨ (bigL n 4).length = 4 := by right; exact bigL_length n 4
    generalize hbd : bigL n 4 = bd at *
    clear hbd
    have hsz0 := ex_size 42 bd
    have h2 := ex_two 42 bd (by omega)
    have h3 := ex_num 42 bd (by omega)
    have hcut := fun k => ex_cut 42 bd k (by omega) (by omega)
    have H1 := Lib.hid (And.intro hsz0 (And.intro h2 (And.intro h3 (And.intro hbl hcut))))
    clear h2 h3 hcut
    have hF : ∀ w1, Calls Tryd.prog 17 #[.int .u16 42, .string ⟨bd.toArray⟩] w1 fun e w' => e = .returned (.string (ex 42 bd)) ∧ Below w1.heap.size w1 w' := fun w1 => framed_ex 42 bd w1 (by omega) (by omega)
    generalize hr : ex 42 bd = r at *
    have HV := Lib.hid HV0
    have HF := Lib.hid hF
    have hsz : (r.size : Int) = 4 + bd.length ∧ (bd.length : Int) ≤ 4 := by omega
    clear HV0 hF hr hsz0 hbl
    by_cases hlo : n2 < 1
    · clear H1 hsz
      go_enter Tryd.func4, Tryd.ntmps4
      go_wp2_with fail
      refine (HV.out).mono ?_
      rintro e wc0 ⟨rfl, hc0⟩
      have hb0 := hc0
      clear hc0
      go_wp2_with fail
      refine (HF.out _).mono ?_
      rintro e wc1 ⟨rfl, hc1⟩
      have hb1 := hb0.trans (hc1.mono hb0.size)
      clear hc1
      have hb : Below w.heap.size w wc1 := hb1
      clear hb0 hb1
      go_wp2_with fail
      go_ret
      exact ⟨rfl, hb⟩
    · by_cases hhi : (r.size : Int) < n2
      · clear H1 hsz
        go_enter Tryd.func4, Tryd.ntmps4
        go_wp2_with fail
        refine (HV.out).mono ?_
        rintro e wc0 ⟨rfl, hc0⟩
        have hb0 := hc0
        clear hc0
        go_wp2_with fail
        refine (HF.out _).mono ?_
        rintro e wc1 ⟨rfl, hc1⟩
        have hb1 := hb0.trans (hc1.mono hb0.size)
        clear hc1
        have hb : Below w.heap.size w wc1 := hb1
        clear hb0 hb1
        go_wp2_with fail
        go_ret
        exact ⟨rfl, hb⟩
      · obtain ⟨k, rfl⟩ := Int.eq_ofNat_of_zero_le (show 0 ≤ n2 by omega)
        have HZ := Lib.hid hsz
        have hkr : k ≤ r.size := by omega
        have hk1 : 1 ≤ k := by omega
        have hrm : (r.size : Int) ≤ 300 := by omega
        clear hsz
        go_enter Tryd.func4, Tryd.ntmps4
        go_wp2_with fail
        refine (HV.out).mono ?_
        rintro e wc0 ⟨rfl, hc0⟩
        have hb0 := hc0
        clear hc0
        go_wp2_with fail
        refine (HF.out _).mono ?_
        rintro e wc1 ⟨rfl, hc1⟩
        have hb1 := hb0.trans (hc1.mono hb0.size)
        clear hc1
        have hb : Below w.heap.size w wc1 := hb1
        clear hb0 hb1
        go_wp2_with fail
        have HR := read_yes r bd.length wc1 H1.out.1 (by have := HZ.out; omega) H1.out.2.1 H1.out.2.2.1 H1.out.2.2.2.1
        refine HR.mono ?_
        clear HR
        rintro e w3 ⟨⟨v, h, rfl⟩, hb3⟩
        have hb3' := hb.trans (hb3.mono hb.size)
        clear hb3 hb
        go_wp2_with (first
          | (refine wpList_alloc_blk _ rfl 39 rfl zeroExt zext ?_; intro w4 hG4 hb4 hz4)
          | (refine wpList_store_blk _ rfl 39 (.tmp 8) (.tmp 33) rfl w3.heap.size 39 zeroExt (ext0 42 ⟨#[]⟩ false v h) rfl rfl hG4 sext rfl (ext0_one _ _ _ _ _) ?_; intro w5 hG5 hg5))
        have hb5 : Below w.heap.size w w5 := hb3'.trans ((hb4.mono hb3'.size).trans (below_grown hg5 (Nat.le_of_lt hz4) |>.mono hb3'.size))
        have hcs := cut_size r (r.size - k) (by omega)
        have hno := H1.out.2.2.2.2 (r.size - k) (by have := H1.out.1; omega)
        refine (read_no _ w5 (by have := HZ.out; omega) hno (e1.below hb5 e1.lt) (e0.below hb5 e0.lt)).mono ?_
        rintro e w6 ⟨rfl, hb6⟩
        have hb6' := hb5.trans (hb6.mono hb5.size)
        clear hcs hno
        go_wp2_with (first
          | (refine wpList_alloc_blk _ rfl 39 rfl zeroExt zext ?_; intro w7 hG7 hb7 hz7)
          | (refine wpList_store_blk _ rfl 39 (.tmp 10) (.tmp 43) rfl w6.heap.size 39 zeroExt zeroExt rfl rfl hG7 sext rfl (ext0_one _ _ _ _ _) ?_; intro w8 hG8 hg8))
        go_ret
        exact ⟨rfl, hb6'.trans ((hb7.mono hb6'.size).trans ((below_grown hg8 (Nat.le_of_lt hz7)).mono hb6'.size))⟩
  | false =>
    by_cases hz : (n : Int) = 0
    · have hz' : n = 0 := by omega
      subst hz'
      have HV0 := early_no 0 w
      clear bd0 hn hz
      have hbl : (([] : List UInt8)).length = 0 ∨ (([] : List UInt8)).length = 4 := by left; rfl
      obtain ⟨bd, hbd⟩ : ∃ bd : List UInt8, bd = [] := ⟨_, rfl⟩
      rw [← hbd] at HV0 hbl
      clear hbd
      have hsz0 := ex_size 42 bd
      have h2 := ex_two 42 bd (by omega)
      have h3 := ex_num 42 bd (by omega)
      have hcut := fun k => ex_cut 42 bd k (by omega) (by omega)
      have H1 := Lib.hid (And.intro hsz0 (And.intro h2 (And.intro h3 (And.intro hbl hcut))))
      clear h2 h3 hcut
      have hF : ∀ w1, Calls Tryd.prog 17 #[.int .u16 42, .string ⟨bd.toArray⟩] w1 fun e w' => e = .returned (.string (ex 42 bd)) ∧ Below w1.heap.size w1 w' := fun w1 => framed_ex 42 bd w1 (by omega) (by omega)
      generalize hr : ex 42 bd = r at *
      have HV := Lib.hid HV0
      have HF := Lib.hid hF
      have hsz : (r.size : Int) = 4 + bd.length ∧ (bd.length : Int) ≤ 4 := by omega
      clear HV0 hF hr hsz0 hbl
      by_cases hlo : n2 < 1
      · clear H1 hsz
        go_enter Tryd.func4, Tryd.ntmps4
        go_wp2_with fail
        refine (HV.out).mono ?_
        rintro e wc0 ⟨rfl, hc0⟩
        have hb0 := hc0
        clear hc0
        go_wp2_with fail
        refine (HF.out _).mono ?_
        rintro e wc1 ⟨rfl, hc1⟩
        have hb1 := hb0.trans (hc1.mono hb0.size)
        clear hc1
        have hb : Below w.heap.size w wc1 := hb1
        clear hb0 hb1
        go_wp2_with fail
        go_ret
        exact ⟨rfl, hb⟩
      · by_cases hhi : (r.size : Int) < n2
        · clear H1 hsz
          go_enter Tryd.func4, Tryd.ntmps4
          go_wp2_with fail
          refine (HV.out).mono ?_
          rintro e wc0 ⟨rfl, hc0⟩
          have hb0 := hc0
          clear hc0
          go_wp2_with fail
          refine (HF.out _).mono ?_
          rintro e wc1 ⟨rfl, hc1⟩
          have hb1 := hb0.trans (hc1.mono hb0.size)
          clear hc1
          have hb : Below w.heap.size w wc1 := hb1
          clear hb0 hb1
          go_wp2_with fail
          go_ret
          exact ⟨rfl, hb⟩
        · obtain ⟨k, rfl⟩ := Int.eq_ofNat_of_zero_le (show 0 ≤ n2 by omega)
          have HZ := Lib.hid hsz
          have hkr : k ≤ r.size := by omega
          have hk1 : 1 ≤ k := by omega
          have hrm : (r.size : Int) ≤ 300 := by omega
          clear hsz
          go_enter Tryd.func4, Tryd.ntmps4
          go_wp2_with fail
          refine (HV.out).mono ?_
          rintro e wc0 ⟨rfl, hc0⟩
          have hb0 := hc0
          clear hc0
          go_wp2_with fail
          refine (HF.out _).mono ?_
          rintro e wc1 ⟨rfl, hc1⟩
          have hb1 := hb0.trans (hc1.mono hb0.size)
          clear hc1
          have hb : Below w.heap.size w wc1 := hb1
          clear hb0 hb1
          go_wp2_with fail
          have HR := read_yes r bd.length wc1 H1.out.1 (by have := HZ.out; omega) H1.out.2.1 H1.out.2.2.1 H1.out.2.2.2.1
          refine HR.mono ?_
          clear HR
          rintro e w3 ⟨⟨v, h, rfl⟩, hb3⟩
          have hb3' := hb.trans (hb3.mono hb.size)
          clear hb3 hb
          go_wp2_with (first
            | (refine wpList_alloc_blk _ rfl 39 rfl zeroExt zext ?_; intro w4 hG4 hb4 hz4)
            | (refine wpList_store_blk _ rfl 39 (.tmp 8) (.tmp 33) rfl w3.heap.size 39 zeroExt (ext0 42 ⟨#[]⟩ false v h) rfl rfl hG4 sext rfl (ext0_one _ _ _ _ _) ?_; intro w5 hG5 hg5))
          have hb5 : Below w.heap.size w w5 := hb3'.trans ((hb4.mono hb3'.size).trans (below_grown hg5 (Nat.le_of_lt hz4) |>.mono hb3'.size))
          have hcs := cut_size r (r.size - k) (by omega)
          have hno := H1.out.2.2.2.2 (r.size - k) (by have := H1.out.1; omega)
          refine (read_no _ w5 (by have := HZ.out; omega) hno (e1.below hb5 e1.lt) (e0.below hb5 e0.lt)).mono ?_
          rintro e w6 ⟨rfl, hb6⟩
          have hb6' := hb5.trans (hb6.mono hb5.size)
          clear hcs hno
          go_wp2_with (first
            | (refine wpList_alloc_blk _ rfl 39 rfl zeroExt zext ?_; intro w7 hG7 hb7 hz7)
            | (refine wpList_store_blk _ rfl 39 (.tmp 10) (.tmp 43) rfl w6.heap.size 39 zeroExt zeroExt rfl rfl hG7 sext rfl (ext0_one _ _ _ _ _) ?_; intro w8 hG8 hg8))
          go_ret
          exact ⟨rfl, hb6'.trans ((hb7.mono hb6'.size).trans ((below_grown hg8 (Nat.le_of_lt hz7)).mono hb6'.size))⟩
    · clear e0 e1 bd0 hn
      have hzb : ((n : Int) == 0) = false := by simpa using hz
      go_enter Tryd.func4, Tryd.ntmps4
      go_wp2
      go_ret
      exact ⟨rfl, Below.refl _ _⟩
end Go.Proofs.YtgjlnkciemdklaaDoor.fnEarlyDataCut
