/-
  CONTRACTS OF big, vec AND framedExt of package laws: a number in so many bytes, the greatest first; a text behind its length; an extension. For every number and up to 8 bytes.
-/
import Derived.Test.YtdnnhoggpakjbaaDoorText
import Derived.Lib.Strings
namespace Go.Proofs.YtdnnhoggpakjbaaDoor
set_option linter.unusedSimpArgs false
set_option linter.unusedVariables false
open Go.RowKit

/-- A number in k bytes, the greatest first. -/
def bigL (n : Nat) : Nat → List UInt8
  | 0 => []
  | k + 1 => bigL (n / 256) k ++ [UInt8.ofNat n]

theorem bigL_length (n : Nat) : ∀ k, (bigL n k).length = k := by
  intro k
  induction k generalizing n with
  | zero => rfl
  | succ k ih => simp [bigL, ih]

theorem bigL_succ (n : Nat) : ∀ k, bigL n (k + 1) = UInt8.ofNat (n / 256 ^ k) :: bigL n k := by
  intro k
  induction k generalizing n with
  | zero => simp [bigL]
  | succ k ih =>
    rw [bigL, ih (n / 256), bigL]
    simp [Nat.div_div_eq_div_mul, Nat.pow_succ, Nat.mul_comm]

theorem big_step (n k i : Nat) (h : i < k) : (List.replicate (k - i) (0 : UInt8) ++ bigL n i).set (k - 1 - i) (UInt8.ofNat (n / 256 ^ i)) = List.replicate (k - (i + 1)) 0 ++ bigL n (i + 1) := by
  obtain ⟨d, rfl⟩ : ∃ d, k = d + 1 + i := ⟨k - 1 - i, by omega⟩
  rw [show d + 1 + i - i = d + 1 by omega, show d + 1 + i - 1 - i = d by omega, show d + 1 + i - (i + 1) = d by omega, bigL_succ, List.replicate_succ']
  simp [List.set_append]

theorem infoU8 : (Tryd.prog.info? 5).map (fun i => (i.zero, i.size, i.bytes)) = some (some (.int .u8 0), 1, 1) := by kernel_rfl

set_option maxRecDepth 100000 in
set_option maxHeartbeats 1000000 in
theorem big_any (n : Nat) (k : Nat) (w : World) (hn : n < 18446744073709551616) (hk : k ≤ 8) :
    Calls Tryd.prog 10 #[.int .u64 n, .int .i64 k] w fun e w' => e = .returned (.string ⟨(bigL n k).toArray⟩) ∧ Below w.heap.size w w' := by
  have HN := Lib.hid hn
  clear hn
  go_enter Tryd.func10, Tryd.ntmps10
  go_wp2_with (refine wpList_make_bytes _ rfl (.tmp 7) (.tmp 7) 26 rfl w.heap.size 5 Tryd.underlying26 infoU8 .i64 .i64 (k : Int) (k : Int) k rfl rfl rfl rfl (by omega) (Nat.le_refl _) ?_; intro w1 hown hb1 hz1)
  go_loopw [0, 6, 11] (fun nv _ iv wr => ∃ i m : Nat, i ≤ k ∧ nv = .int .u64 (m : Nat) ∧ m < 18446744073709551616 ∧ m = n / 256 ^ i ∧ iv = .int .i64 (i : Nat) ∧ Own wr w.heap.size 5 w.heap.size k (List.replicate (k - i) 0 ++ bigL n i) ∧ Below w.heap.size w wr)
    (fun _ _ iv _ => k - (intOf iv).toNat)
  case atStart => exact ⟨0, n, by omega, rfl, HN.out, by simp, rfl, by simpa [bigL] using hown, hb1⟩
  case round =>
    obtain ⟨i, m, hi, rfl, hm, hmn, rfl, how, hbw⟩ := hrel
    by_cases hlt : i < k
    · have hc0 : wr.cell? ⟨w.heap.size, k - 1 - i, none⟩ = some (.int .u8 0) := how.at _ 0 (by rw [List.getElem?_append_left (by simp; omega), List.getElem?_replicate, if_pos (by omega)])
      have hf0 := how.frozen (k - 1 - i)
      have HM := Lib.hid hm
      have HMN := Lib.hid hmn
      clear hm hmn
      have hi' : (i : Int) < k := by omega
      go_wp2_with fail
      go_roundw
      case rel =>
        have hm' := HM.out
        have hs := how.stored (k - 1 - i) (UInt8.ofNat (n / 256 ^ i))
        rw [big_step n k i hlt] at hs
        have ex : ((m : Int) % 256) = ((UInt8.ofNat (n / 256 ^ i)).toNat : Int) := by rw [← HMN.out]; simp
        rw [ex]
        exact ⟨i + 1, m / 256, by omega, by simp, by omega, by rw [HMN.out, Nat.div_div_eq_div_mul, Nat.pow_succ], by simp, hs, hbw.setCell (p := ⟨w.heap.size, k - 1 - i, none⟩) (Nat.le_refl _) _⟩
      case measure => simp [intOf]; omega
    · obtain rfl : i = k := by omega
      go_wp2_with (refine wpList_to_string _ rfl (.tmp 25) 26 9 5 rfl Tryd.underlying26 Tryd.underlying5 Tryd.underlying9 w.heap.size 0 i i (bigL n i) rfl (bigL_length n i) (by simpa using how.bytes) ?_)
      go_ret
      exact ⟨rfl, hbw⟩

theorem str_app (l : List UInt8) (s : ByteArray) : (⟨l.toArray⟩ : ByteArray) ++ s = ⟨(l ++ s.data.toList).toArray⟩ := by
  apply ByteArray.ext
  simp [ByteArray.data_append]
theorem str_app2 (l l' : List UInt8) : (⟨l.toArray⟩ : ByteArray) ++ ⟨l'.toArray⟩ = ⟨(l ++ l').toArray⟩ := by rw [str_app]
theorem ret_str {a b : ByteArray} (h : a = b) : Ending.returned (.string a) = .returned (.string b) := by rw [h]

theorem cut_data (s : ByteArray) (n : Nat) : (s.extract 0 n).data.toList = s.data.toList.take n := by
  rw [Lib.extract_data]
  simp
theorem cut_size (s : ByteArray) (n : Nat) (h : n ≤ s.size) : (s.extract 0 n).size = n := by
  rw [← toList_size, cut_data, List.length_take, toList_size]
  omega
theorem cut_getD (s : ByteArray) (n i : Nat) (h : i < n) : (s.extract 0 n).data.toList.getD i 0 = s.data.toList.getD i 0 := by
  rw [cut_data]
  simp [List.getD, List.getElem?_take, h]

theorem vec_any (s : ByteArray) (k : Nat) (w : World) (hs : s.size < 4294967296) (hk : k ≤ 8) :
    Calls Tryd.prog 7 #[.string s, .int .i64 k] w fun e w' => e = .returned (.string ⟨(bigL s.size k ++ s.data.toList).toArray⟩) ∧ Below w.heap.size w w' := by
  go_enter Tryd.func7, Tryd.ntmps7
  go_wp2_with fail
  refine (big_any s.size k w (by omega) hk).mono ?_
  rintro e w1 ⟨rfl, hb1⟩
  have hl := bigL_length s.size k
  go_wp2_with fail
  go_ret
  exact ⟨ret_str (str_app _ _), hb1⟩

end Go.Proofs.YtdnnhoggpakjbaaDoor
