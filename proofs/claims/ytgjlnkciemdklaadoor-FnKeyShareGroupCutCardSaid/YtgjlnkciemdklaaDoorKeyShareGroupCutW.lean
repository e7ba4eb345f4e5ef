/-
  THE WALK OF THE LAW FnKeyShareGroupCut: the Go text of the law, step by step: it returns true, and what was in memory stays as it was. For every argument of the law's own types.
-/
import Derived.Test.YtgjlnkciemdklaaDoorKsC
namespace Go.Proofs.YtgjlnkciemdklaaDoor.fnKeyShareGroupCut
open Go.ChangeShapes Go.WideShapes Go.ChangeAt Go.RowKit
open Go.ChangeMaps (open_string shut_string)
set_option linter.unusedVariables false
set_option linter.unusedSimpArgs false

set_option maxRecDepth 100000 in
theorem among23 (w : World) (r : Nat) (c0 : w.cell? ⟨r, 0, none⟩ = some (.int .u16 23)) (c1 : w.cell? ⟨r, 1, none⟩ = some (.int .u16 24)) (c2 : w.cell? ⟨r, 2, none⟩ = some (.int .u16 29)) :
    Calls Tryd.prog 33 #[.int .u16 23, .slice (some ⟨r, 0, none⟩) 3 3] w fun e w' => e = .returned (.bool true) ∧ w = w' := by
  go_enter Tryd.func33, Tryd.ntmps33
  go_wp2_with fail
  go_loopw [9] (fun iv wr => ∃ i : Nat, i ≤ 0 ∧ iv = .int .i64 (i : Nat) ∧ wr = w) (fun iv _ => 3 - (intOf iv).toNat)
  case atStart => exact ⟨0, by omega, rfl, rfl⟩
  case round =>
    obtain ⟨i, hi, rfl, rfl⟩ := hrel
    have hi' : i = 0 := by omega
    rcases hi' with rfl
    · go_wp2_with fail
      go_ret
      exact ⟨rfl, rfl⟩
set_option maxRecDepth 100000 in
theorem among24 (w : World) (r : Nat) (c0 : w.cell? ⟨r, 0, none⟩ = some (.int .u16 23)) (c1 : w.cell? ⟨r, 1, none⟩ = some (.int .u16 24)) (c2 : w.cell? ⟨r, 2, none⟩ = some (.int .u16 29)) :
    Calls Tryd.prog 33 #[.int .u16 24, .slice (some ⟨r, 0, none⟩) 3 3] w fun e w' => e = .returned (.bool true) ∧ w = w' := by
  go_enter Tryd.func33, Tryd.ntmps33
  go_wp2_with fail
  go_loopw [9] (fun iv wr => ∃ i : Nat, i ≤ 1 ∧ iv = .int .i64 (i : Nat) ∧ wr = w) (fun iv _ => 3 - (intOf iv).toNat)
  case atStart => exact ⟨0, by omega, rfl, rfl⟩
  case round =>
    obtain ⟨i, hi, rfl, rfl⟩ := hrel
    have hi' : i = 0 ∨ i = 1 := by omega
    rcases hi' with rfl | rfl
    · go_wp2_with fail
      go_roundw
      case rel => exact ⟨1, by omega, by rfl, trivial⟩
      case measure => simp [intOf]
    · go_wp2_with fail
      go_ret
      exact ⟨rfl, rfl⟩
set_option maxRecDepth 100000 in
theorem among29 (w : World) (r : Nat) (c0 : w.cell? ⟨r, 0, none⟩ = some (.int .u16 23)) (c1 : w.cell? ⟨r, 1, none⟩ = some (.int .u16 24)) (c2 : w.cell? ⟨r, 2, none⟩ = some (.int .u16 29)) :
    Calls Tryd.prog 33 #[.int .u16 29, .slice (some ⟨r, 0, none⟩) 3 3] w fun e w' => e = .returned (.bool true) ∧ w = w' := by
  go_enter Tryd.func33, Tryd.ntmps33
  go_wp2_with fail
  go_loopw [9] (fun iv wr => ∃ i : Nat, i ≤ 2 ∧ iv = .int .i64 (i : Nat) ∧ wr = w) (fun iv _ => 3 - (intOf iv).toNat)
  case atStart => exact ⟨0, by omega, rfl, rfl⟩
  case round =>
    obtain ⟨i, hi, rfl, rfl⟩ := hrel
    have hi' : i = 0 ∨ i = 1 ∨ i = 2 := by omega
    rcases hi' with rfl | rfl | rfl
    · go_wp2_with fail
      go_roundw
      case rel => exact ⟨1, by omega, by rfl, trivial⟩
      case measure => simp [intOf]
    · go_wp2_with fail
      go_roundw
      case rel => exact ⟨2, by omega, by rfl, trivial⟩
      case measure => simp [intOf]
    · go_wp2_with fail
      go_ret
      exact ⟨rfl, rfl⟩
set_option maxRecDepth 100000 in
theorem amongNo (n : Int) (h1 : ((23 : Int) == n) = false) (h2 : ((24 : Int) == n) = false) (h3 : ((29 : Int) == n) = false) (w : World) (r : Nat) (c0 : w.cell? ⟨r, 0, none⟩ = some (.int .u16 23)) (c1 : w.cell? ⟨r, 1, none⟩ = some (.int .u16 24)) (c2 : w.cell? ⟨r, 2, none⟩ = some (.int .u16 29)) :
    Calls Tryd.prog 33 #[.int .u16 n, .slice (some ⟨r, 0, none⟩) 3 3] w fun e w' => e = .returned (.bool false) ∧ w = w' := by
  go_enter Tryd.func33, Tryd.ntmps33
  go_wp2_with fail
  go_loopw [9] (fun iv wr => ∃ i : Nat, i ≤ 3 ∧ iv = .int .i64 (i : Nat) ∧ wr = w) (fun iv _ => 3 - (intOf iv).toNat)
  case atStart => exact ⟨0, by omega, rfl, rfl⟩
  case round =>
    obtain ⟨i, hi, rfl, rfl⟩ := hrel
    have hi' : i = 0 ∨ i = 1 ∨ i = 2 ∨ i = 3 := by omega
    rcases hi' with rfl | rfl | rfl | rfl
    · go_wp2_with fail
      go_roundw
      case rel => exact ⟨1, by omega, by rfl, trivial⟩
      case measure => simp [intOf]
    · go_wp2_with fail
      go_roundw
      case rel => exact ⟨2, by omega, by rfl, trivial⟩
      case measure => simp [intOf]
    · go_wp2_with fail
      go_roundw
      case rel => exact ⟨3, by omega, by rfl, trivial⟩
      case measure => simp [intOf]
    · go_wp2_with fail
      go_ret
      exact ⟨rfl, rfl⟩

theorem among_yes (g : Nat) (h : g = 23 ∨ g = 24 ∨ g = 29) (w : World) : Calls Tryd.prog 33 #[.int .u16 g, .slice (some ⟨w.heap.size, 0, none⟩) 3 3] (w.alloc (.cells #[.int .u16 23, .int .u16 24, .int .u16 29] 30)) fun e w' => e = .returned (.bool true) ∧ Below w.heap.size w w' := by
  have hB := Blk.new w 30 #[.int .u16 23, .int .u16 24, .int .u16 29]
  have hb : Below w.heap.size w (w.alloc (.cells #[.int .u16 23, .int .u16 24, .int .u16 29] 30)) := (Below.refl _ _).alloc (Nat.le_refl _) _
  rcases h with rfl | rfl | rfl
  · exact (among23 _ _ (hB.at 0 _ rfl) (hB.at 1 _ rfl) (hB.at 2 _ rfl)).mono fun e w' ⟨h1, h2⟩ => ⟨h1, h2 ▸ hb⟩
  · exact (among24 _ _ (hB.at 0 _ rfl) (hB.at 1 _ rfl) (hB.at 2 _ rfl)).mono fun e w' ⟨h1, h2⟩ => ⟨h1, h2 ▸ hb⟩
  · exact (among29 _ _ (hB.at 0 _ rfl) (hB.at 1 _ rfl) (hB.at 2 _ rfl)).mono fun e w' ⟨h1, h2⟩ => ⟨h1, h2 ▸ hb⟩
theorem among_no (n : Int) (h1 : n ≠ 23) (h2 : n ≠ 24) (h3 : n ≠ 29) (w : World) : Calls Tryd.prog 33 #[.int .u16 n, .slice (some ⟨w.heap.size, 0, none⟩) 3 3] (w.alloc (.cells #[.int .u16 23, .int .u16 24, .int .u16 29] 30)) fun e w' => e = .returned (.bool false) ∧ Below w.heap.size w w' := by
  have hB := Blk.new w 30 #[.int .u16 23, .int .u16 24, .int .u16 29]
  have hb : Below w.heap.size w (w.alloc (.cells #[.int .u16 23, .int .u16 24, .int .u16 29] 30)) := (Below.refl _ _).alloc (Nat.le_refl _) _
  exact (amongNo n (by simpa using fun e => h1 e.symm) (by simpa using fun e => h2 e.symm) (by simpa using fun e => h3 e.symm) _ _ (hB.at 0 _ rfl) (hB.at 1 _ rfl) (hB.at 2 _ rfl)).mono fun e w' ⟨h1, h2⟩ => ⟨h1, h2 ▸ hb⟩

theorem num_two (v : Nat) (h : v < 65536) : two (bigL v 2) 0 = v := by
  simp [two, bigL]
  omega
set_option maxHeartbeats 4000000 in
set_option maxRecDepth 100000 in
theorem walk (n0 : Int) (w0 : (Lit.int .u16 n0).wf = true) (n1 : Int) (w1 : (Lit.int .i64 n1).wf = true) (w : World) (e0 : IsErr 206 w 2) (e1 : IsErr 206 w 1) (e2 : IsErr 206 w 15) (e3 : IsErr 206 w 16) :
    Calls Tryd.prog 11 #[.int .u16 n0, .int .i64 n1] w fun e w' => e = .returned (.bool true) ∧ Below w.heap.size w w' := by
  clear e2 e3 w1
  have bd := bounds_u16 w0
  clear w0
  by_cases hin : n0 = 23 ∨ n0 = 24 ∨ n0 = 29
  · obtain ⟨g, rfl⟩ := Int.eq_ofNat_of_zero_le bd.1
    have hgi : g = 23 ∨ g = 24 ∨ g = 29 := by omega
    have hl := bigL_length g 2
    have hsz0 := ex_size 51 (bigL g 2)
    have h1 := ex_two 51 (bigL g 2) (by omega)
    have h2 := ex_num 51 (bigL g 2) (by omega)
    have h3 := ex_drop 51 (bigL g 2)
    have h4 := num_two g (by omega)
    have hcut := fun k => ex_cut 51 (bigL g 2) k (by omega) (by omega)
    rw [← h3] at h4
    rw [hl] at hsz0 h2 hcut
    have HV := Lib.hid (among_yes g hgi w)
    have HV2 := Lib.hid (fun w1 => big_any g 2 w1 (by omega) (by omega))
    have HF := Lib.hid (fun w1 => framed_ex 51 (bigL g 2) w1 (by omega) (by omega))
    have H1 := Lib.hid (And.intro hsz0 (And.intro h1 (And.intro h2 (And.intro h4 (And.intro (show 0 < g ∧ g < 65536 by omega) hcut)))))
    have hsz : ((ex 51 (bigL g 2)).size : Int) = 6 := by omega
    clear hl hsz0 h1 h2 h3 h4 hcut hin hgi
    generalize (⟨(bigL g 2).toArray⟩ : ByteArray) = a2 at *
    generalize ex 51 (bigL g 2) = r at *
    by_cases hlo : n1 < 1
    · clear H1 hsz
      go_enter Tryd.func11, Tryd.ntmps11
      go_wp2_with fail
      refine (HV.out).mono ?_
      rintro e wc0 ⟨rfl, hc0⟩
      have hb0 := hc0
      clear hc0
      go_wp2_with fail
      refine (HV2.out _).mono ?_
      rintro e wc1 ⟨rfl, hc1⟩
      have hb1 := hb0.trans (hc1.mono hb0.size)
      clear hc1
      go_wp2_with fail
      refine (HF.out _).mono ?_
      rintro e wc2 ⟨rfl, hc2⟩
      have hb2 := hb1.trans (hc2.mono hb1.size)
      clear hc2
      have hb : Below w.heap.size w wc2 := hb2
      clear hb0 hb1 hb2
      go_wp2_with fail
      go_ret
      exact ⟨rfl, hb⟩
    · by_cases hhi : (r.size : Int) < n1
      · clear H1 hsz
        go_enter Tryd.func11, Tryd.ntmps11
        go_wp2_with fail
        refine (HV.out).mono ?_
        rintro e wc0 ⟨rfl, hc0⟩
        have hb0 := hc0
        clear hc0
        go_wp2_with fail
        refine (HV2.out _).mono ?_
        rintro e wc1 ⟨rfl, hc1⟩
        have hb1 := hb0.trans (hc1.mono hb0.size)
        clear hc1
        go_wp2_with fail
        refine (HF.out _).mono ?_
        rintro e wc2 ⟨rfl, hc2⟩
        have hb2 := hb1.trans (hc2.mono hb1.size)
        clear hc2
        have hb : Below w.heap.size w wc2 := hb2
        clear hb0 hb1 hb2
        go_wp2_with fail
        go_ret
        exact ⟨rfl, hb⟩
      · obtain ⟨k, rfl⟩ := Int.eq_ofNat_of_zero_le (show 0 ≤ n1 by omega)
        have HZ := Lib.hid hsz
        have hkr : k ≤ r.size := by omega
        have hk1 : 1 ≤ k := by omega
        have hrm : (r.size : Int) ≤ 300 := by omega
        clear hsz
        go_enter Tryd.func11, Tryd.ntmps11
        go_wp2_with fail
        refine (HV.out).mono ?_
        rintro e wc0 ⟨rfl, hc0⟩
        have hb0 := hc0
        clear hc0
        go_wp2_with fail
        refine (HV2.out _).mono ?_
        rintro e wc1 ⟨rfl, hc1⟩
        have hb1 := hb0.trans (hc1.mono hb0.size)
        clear hc1
        go_wp2_with fail
        refine (HF.out _).mono ?_
        rintro e wc2 ⟨rfl, hc2⟩
        have hb2 := hb1.trans (hc2.mono hb1.size)
        clear hc2
        have hb : Below w.heap.size w wc2 := hb2
        clear hb0 hb1 hb2
        go_wp2_with fail
        have HR := read_yes r g wc2 H1.out.1 H1.out.2.1 H1.out.2.2.1 H1.out.2.2.2.1 H1.out.2.2.2.2.1
        refine HR.mono ?_
        clear HR
        rintro e w3 ⟨⟨v, hv1, rfl⟩, hb3⟩
        have hb3' := hb.trans (hb3.mono hb.size)
        clear hb3 hb
        go_wp2_with (first
          | (refine wpList_alloc_blk _ rfl 39 rfl zeroExt zext ?_; intro w4 hG4 hb4 hz4)
          | (refine wpList_store_blk _ rfl 39 (.tmp 6) (.tmp 29) rfl w3.heap.size 39 zeroExt (ksC v) rfl rfl hG4 sext rfl (ksC_one v hv1) ?_; intro w5 hG5 hg5))
        have hb5 : Below w.heap.size w w5 := hb3'.trans ((hb4.mono hb3'.size).trans (below_grown hg5 (Nat.le_of_lt hz4) |>.mono hb3'.size))
        have hcs := cut_size r (r.size - k) (by omega)
        have hno := H1.out.2.2.2.2.2 (r.size - k) (by have := H1.out.1; omega)
        refine (read_no _ w5 (by have := HZ.out; omega) hno (e1.below hb5 e1.lt) (e0.below hb5 e0.lt)).mono ?_
        rintro e w6 ⟨rfl, hb6⟩
        have hb6' := hb5.trans (hb6.mono hb5.size)
        clear hcs hno
        go_wp2_with (first
          | (refine wpList_alloc_blk _ rfl 39 rfl zeroExt zext ?_; intro w7 hG7 hb7 hz7)
          | (refine wpList_store_blk _ rfl 39 (.tmp 8) (.tmp 39) rfl w6.heap.size 39 zeroExt zeroExt rfl rfl hG7 sext rfl (ext0_one _ _ _ _ _) ?_; intro w8 hG8 hg8))
        go_ret
        exact ⟨rfl, hb6'.trans ((hb7.mono hb6'.size).trans ((below_grown hg8 (Nat.le_of_lt hz7)).mono hb6'.size))⟩
  · have HV := Lib.hid (among_no n0 (fun h => hin (Or.inl h)) (fun h => hin (Or.inr (Or.inl h))) (fun h => hin (Or.inr (Or.inr h))) w)
    clear hin bd e0 e1
    go_enter Tryd.func11, Tryd.ntmps11
    go_wp2_with fail
    refine HV.out.mono ?_
    rintro e w1 ⟨rfl, hb1⟩
    go_wp2_with fail
    go_ret
    exact ⟨rfl, hb1⟩
end Go.Proofs.YtgjlnkciemdklaaDoor.fnKeyShareGroupCut
