/-
  THE WALK OF THE LAW FnVerifyRequestCut: the Go text of the law, step by step: it returns true, and what was in memory stays as it was. For every argument of the law's own types.
-/
import Derived.Test.YtdkncgggjhiphaaDoorVerifyRequest
namespace Go.Proofs.YtdkncgggjhiphaaDoor.fnVerifyRequestCut
open Go.ChangeShapes Go.WideShapes Go.ChangeAt Go.RowKit
open Go.ChangeMaps (open_string shut_string)
set_option linter.unusedVariables false
set_option linter.unusedSimpArgs false

/-- The request, laid out. -/
def req (s : ByteArray) : ByteArray := ⟨(254 :: 253 :: UInt8.ofNat s.size :: s.data.toList).toArray⟩
theorem req_size (s : ByteArray) : (req s).size = s.size + 3 := by
  show (254 :: 253 :: UInt8.ofNat s.size :: s.data.toList).toArray.size = _
  simp
theorem req_two (s : ByteArray) (h : s.size < 256) : ((req s).data.toList.getD 2 0).toNat = s.size := by
  show (UInt8.ofNat s.size).toNat = _
  simp
  omega
theorem req_eq (s : ByteArray) : (⟨#[254, 253]⟩ : ByteArray) ++ ⟨(bigL s.size 1 ++ s.data.toList).toArray⟩ = req s := by
  rw [show (⟨#[254, 253]⟩ : ByteArray) = ⟨[254, 253].toArray⟩ from rfl, str_app2]
  rfl

set_option maxHeartbeats 4000000 in
set_option maxRecDepth 100000 in
theorem walk (s0 : ByteArray) (w0 : s0.size ≤ maxLen) (n1 : Int) (w1 : (Lit.int .i64 n1).wf = true) (w : World) (e0 : IsErr 155 w 1) :
    Calls Tryd.prog 4 #[.string s0, .int .i64 n1] w fun e w' => e = .returned (.bool true) ∧ Below w.heap.size w w' := by
  by_cases hz : 2147483647 < (s0.size : Int)
  · go_enter Tryd.func4, Tryd.ntmps4
    go_wp2
    go_ret
    exact ⟨rfl, Below.refl _ _⟩
  · by_cases h1 : (s0.size : Int) < 256
    · have hl := bigL_length s0.size 1
      have hsz := req_size s0
      by_cases hlo : n1 < 1
      · go_enter Tryd.func4, Tryd.ntmps4
        go_wp2_with fail
        refine (vec_any s0 1 w (by omega) (by omega)).mono ?_
        rintro e w1 ⟨rfl, hb1⟩
        go_wp2_with fail
        go_ret
        exact ⟨rfl, hb1⟩
      · by_cases hhi : (s0.size : Int) + 3 < n1
        · go_enter Tryd.func4, Tryd.ntmps4
          go_wp2_with fail
          refine (vec_any s0 1 w (by omega) (by omega)).mono ?_
          rintro e w1 ⟨rfl, hb1⟩
          go_wp2_with fail
          go_ret
          exact ⟨rfl, hb1⟩
        · obtain ⟨k, rfl⟩ := Int.eq_ofNat_of_zero_le (show 0 ≤ n1 by omega)
          have h2 := req_two s0 (by omega)
          go_enter Tryd.func4, Tryd.ntmps4
          go_wp2_with fail
          refine (vec_any s0 1 w (by omega) (by omega)).mono ?_
          rintro e w1 ⟨rfl, hb1⟩
          go_wp2_with fail
          rw [req_eq]
          refine (read_yes (req s0) (by omega) (by omega) (by omega) _).mono ?_
          rintro e w2 ⟨⟨maj, min, s', rfl⟩, hb2⟩
          go_wp2_with (first
            | (refine wpList_alloc_blk _ rfl 35 rfl zeroMsg zmsg ?_; intro w3 hG3 hb3 hz3)
            | (refine wpList_store_blk _ rfl 35 (.tmp 6) (.tmp 31) rfl w2.heap.size 35 zeroMsg (reqMsg maj min s') rfl rfl hG3 smsg rfl (reqOne _ _ _) ?_; intro w4 hG4 hg4))
          have hcs := cut_size (req s0) (s0.size + 3 - k) (by omega)
          have hno : ((req s0).extract 0 (s0.size + 3 - k)).size < 3 ∨ ((req s0).extract 0 (s0.size + 3 - k)).size < (((req s0).extract 0 (s0.size + 3 - k)).data.toList.getD 2 0).toNat + 3 := by
            by_cases h3 : s0.size + 3 - k < 3
            · left; omega
            · right; rw [cut_getD _ _ _ (by omega), h2]; omega
          have hb4 : Below w.heap.size w w4 := hb1.trans ((hb2.mono hb1.size).trans ((hb3.mono (by have := hb1.size; have := hb2.size; omega)).trans (below_grown hg4 (Nat.le_of_lt hz3) |>.mono (by have := hb1.size; have := hb2.size; omega))))
          refine (read_no _ (by omega) hno w4 (e0.below hb4 e0.lt)).mono ?_
          rintro e w5 ⟨rfl, hb5⟩
          clear hcs hno
          go_wp2_with (first
            | (refine wpList_alloc_blk _ rfl 35 rfl zeroMsg zmsg ?_; intro w6 hG6 hb6 hz6)
            | (refine wpList_store_blk _ rfl 35 (.tmp 8) (.tmp 41) rfl w5.heap.size 35 zeroMsg zeroMsg rfl rfl hG6 smsg rfl zeroOne ?_; intro w7 hG7 hg7))
          go_ret
          have hb5' := hb4.trans (hb5.mono hb4.size)
          exact ⟨rfl, hb5'.trans ((hb6.mono hb5'.size).trans ((below_grown hg7 (Nat.le_of_lt hz6)).mono hb5'.size))⟩
    · go_enter Tryd.func4, Tryd.ntmps4
      go_wp2
      go_ret
      exact ⟨rfl, Below.refl _ _⟩
end Go.Proofs.YtdkncgggjhiphaaDoor.fnVerifyRequestCut
