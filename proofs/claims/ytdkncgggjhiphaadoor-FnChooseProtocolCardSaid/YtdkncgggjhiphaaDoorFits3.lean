/-
  THE CONTRACT OF zzFits3 of package laws: whether a list of texts holds nothing longer than the bound. For every slice of strings, nil and empty too.
-/
import Derived.Test.YtdkncgggjhiphaaDoorBase
namespace Go.Proofs.YtdkncgggjhiphaaDoor
set_option linter.unusedSimpArgs false
set_option linter.unusedVariables false
open Go.RowKit

def fitsB (ss : List ByteArray) : Bool := decide (ss.length ≤ 2147483647) && ss.all fun s => decide (s.size ≤ 2147483647)

theorem fitsB_len {ss : List ByteArray} (h : fitsB ss = true) : ss.length ≤ 2147483647 := by
  unfold fitsB at h
  simp at h
  exact h.1
theorem fitsB_mem {ss : List ByteArray} (h : fitsB ss = true) : ∀ s ∈ ss, s.size ≤ 2147483647 := by
  unfold fitsB at h
  simp at h
  exact h.2
theorem fitsB_long {ss : List ByteArray} (h : 2147483647 < ss.length) : fitsB ss = false := by
  unfold fitsB
  rw [decide_eq_false (by omega), Bool.false_and]
theorem all_take_succ (ss : List ByteArray) (k : Nat) (h : k < ss.length) : ((ss.take (k + 1)).all fun s => decide (s.size ≤ 2147483647)) = (((ss.take k).all fun s => decide (s.size ≤ 2147483647)) && decide ((ss.getD k ByteArray.empty).size ≤ 2147483647)) := by
  have e : ss.getD k ByteArray.empty = ss[k] := by simp [List.getD, List.getElem?_eq_getElem h]
  rw [e, List.take_succ_eq_append_getElem h, List.all_append]
  simp only [List.all_cons, List.all_nil, Bool.and_true]
theorem fitsB_big (ss : List ByteArray) (k : Nat) (h : k < ss.length) (hb : ¬ (ss.getD k ByteArray.empty).size ≤ 2147483647) : fitsB ss = false := by
  have e : ss.getD k ByteArray.empty = ss[k] := by simp [List.getD, List.getElem?_eq_getElem h]
  rw [e] at hb
  cases hf : fitsB ss
  · rfl
  · exact absurd (fitsB_mem hf _ (List.getElem_mem h)) hb
theorem fitsB_all (ss : List ByteArray) (hl : ss.length ≤ 2147483647) (h : (ss.all fun s => decide (s.size ≤ 2147483647)) = true) : fitsB ss = true := by
  unfold fitsB
  rw [h, decide_eq_true hl]
  rfl
theorem ret_boolB {a b : Bool} (h : a = b) : Ending.returned (.bool a) = .returned (.bool b) := by rw [h]

set_option maxRecDepth 100000 in
theorem fits3_any (w : World) (a : Option Addr) (len cap : Nat) (ss : List ByteArray) (h : IsStrs w a len cap ss) :
    Calls Tryd.prog 17 #[.slice a len cap] w fun e w' => e = .returned (.bool (fitsB ss)) ∧ w = w' := by
  obtain ⟨h1, h2, h3, h4, h5⟩ := h
  unfold maxLen at h2
  have HM := Lib.hid h4
  clear h4
  by_cases hz : 2147483647 < (len : Int)
  · have HF := Lib.hid (fitsB_long (ss := ss) (by omega))
    clear h5 h3
    go_enter Tryd.func17, Tryd.ntmps17
    go_wp2
    go_ret
    exact ⟨ret_boolB HF.out.symm, rfl⟩
  · rcases Nat.eq_zero_or_pos len with rfl | hp
    · have HF := Lib.hid (fitsB_all ss (by omega) (by rw [List.eq_nil_of_length_eq_zero h3]; rfl))
      clear h5 h3
      go_enter Tryd.func17, Tryd.ntmps17
      go_wp2
      refine wp_loop_rounds 1 ?_
      rw [rounds_succ]
      go_wp2
      go_ret
      exact ⟨ret_boolB HF.out.symm, rfl⟩
    · obtain ⟨b, off, rfl, hb, hc⟩ := h5 hp
      clear h5
      go_enter Tryd.func17, Tryd.ntmps17
      go_wp2
      go_loop [4, 10] (fun _ i => ∃ k : Nat, k ≤ len ∧ i = .int .i64 k ∧ ((ss.take k).all fun s => decide (s.size ≤ 2147483647)) = true) (fun _ i => len - (intOf i).toNat)
      case atStart => exact ⟨0, Nat.zero_le _, rfl, rfl⟩
      case round =>
        obtain ⟨k, hk, rfl, hall⟩ := hrel
        have HA := Lib.hid hall
        clear hall
        by_cases hlt : k < len
        · have hcell := hc k hlt
          have hi : (k : Int) < len := by omega
          have hs := all_take_succ ss k (by omega)
          have hbig := fitsB_big ss k (by omega)
          generalize ss.getD k ByteArray.empty = t at *
          clear hc
          by_cases ht : t.size ≤ 2147483647
          · rw [HA.out, decide_eq_true ht, Bool.and_true] at hs
            have HS := Lib.hid hs
            have ht' : (t.size : Int) ≤ 2147483647 := by omega
            clear hs hbig ht
            go_wp2
            go_round
            case rel => exact ⟨k + 1, by omega, by go_num, HS.out⟩
            case measure => simp [intOf]; omega
          · have HB := Lib.hid (hbig ht)
            have ht' : 2147483647 < (t.size : Int) := by omega
            clear hs hbig ht
            go_wp2
            go_ret
            exact ⟨ret_boolB HB.out.symm, rfl⟩
        · obtain rfl : k = len := by omega
          have hall := HA.out
          rw [List.take_of_length_le (Nat.le_of_eq h3)] at hall
          have HF := Lib.hid (fitsB_all ss (by omega) hall)
          clear hall hc
          go_wp2
          go_ret
          exact ⟨ret_boolB HF.out.symm, rfl⟩
end Go.Proofs.YtdkncgggjhiphaaDoor
