/-
  THE WALK OF THE LAW FnClientKeyPskCut: the Go text of the law, step by step: it returns true, and what was in memory stays as it was. For every argument of the law's own types.
-/
import Derived.Test.YtdkncgggjhiphaaDoorClientKeyPsk
namespace Go.Proofs.YtdkncgggjhiphaaDoor.fnClientKeyPskCut
open Go.ChangeShapes Go.WideShapes Go.ChangeAt Go.RowKit
open Go.ChangeMaps (open_string shut_string)
set_option linter.unusedVariables false
set_option linter.unusedSimpArgs false

/-- The hint behind its length, laid out. -/
def req (s : ByteArray) : ByteArray := ⟨(bigL s.size 2 ++ s.data.toList).toArray⟩
theorem req_list (s : ByteArray) : (req s).data.toList = UInt8.ofNat (s.size / 256) :: UInt8.ofNat s.size :: s.data.toList := by
  simp [req, bigL]
theorem req_size (s : ByteArray) : (req s).size = s.size + 2 := by
  have := req_list s
  rw [← toList_size, this]
  simp
theorem req_two (s : ByteArray) (h : s.size < 65536) : two (req s).data.toList 0 = s.size := by
  rw [req_list]
  simp [two]
  omega

set_option maxHeartbeats 4000000 in
set_option maxRecDepth 100000 in
theorem walk (s0 : ByteArray) (w0 : s0.size ≤ maxLen) (n1 : Int) (w1 : (Lit.int .i64 n1).wf = true) (w : World) (e0 : IsErr 155 w 1) (e1 : IsErr 155 w 9) :
    Calls Tryd.prog 11 #[.string s0, .int .i64 n1] w fun e w' => e = .returned (.bool true) ∧ Below w.heap.size w w' := by
  clear e1
  by_cases hz : 2147483647 < (s0.size : Int)
  · go_enter Tryd.func11, Tryd.ntmps11
    go_wp2
    go_ret
    exact ⟨rfl, Below.refl _ _⟩
  · by_cases hp0 : 0 < s0.size
    · by_cases h1 : (s0.size : Int) < 60000
      · have hl := bigL_length s0.size 2
        have hsz := req_size s0
        by_cases hlo : n1 < 1
        · go_enter Tryd.func11, Tryd.ntmps11
          go_wp2_with fail
          refine (vec_any s0 2 w (by omega) (by omega)).mono ?_
          rintro e w1 ⟨rfl, hb1⟩
          go_wp2_with fail
          go_ret
          exact ⟨rfl, hb1⟩
        · by_cases hhi : ((req s0).size : Int) < n1
          · go_enter Tryd.func11, Tryd.ntmps11
            go_wp2_with fail
            refine (vec_any s0 2 w (by omega) (by omega)).mono ?_
            have H1 := Lib.hid (And.intro hp0 (And.intro h1 hsz))
            clear h1 hz hsz hl hp0
            rintro e w1 ⟨rfl, hb1⟩
            change Below w.heap.size w w1 at hb1
            rw [show (⟨(bigL s0.size 2 ++ s0.data.toList).toArray⟩ : ByteArray) = req s0 from rfl]
            generalize hr : req s0 = r at *
            go_wp2_with fail
            go_ret
            exact ⟨rfl, hb1⟩
          · obtain ⟨k, rfl⟩ := Int.eq_ofNat_of_zero_le (show 0 ≤ n1 by omega)
            have h2 := req_two s0 (by omega)
            go_enter Tryd.func11, Tryd.ntmps11
            go_wp2_with fail
            refine (vec_any s0 2 w (by omega) (by omega)).mono ?_
            have H1 := Lib.hid (And.intro hp0 (And.intro h1 hsz))
            clear h1 hz hsz hl hp0
            rintro e w1 ⟨rfl, hb1⟩
            change Below w.heap.size w w1 at hb1
            rw [show (⟨(bigL s0.size 2 ++ s0.data.toList).toArray⟩ : ByteArray) = req s0 from rfl]
            generalize hr : req s0 = r at *
            go_wp2_with fail
            obtain ⟨hp0, h1, hsz⟩ := H1.out
            refine (read_yes r (by omega) (by omega) (by omega) _).mono ?_
            rintro e w2 ⟨⟨s', rfl⟩, hb2⟩
            go_wp2_with (first
              | (refine wpList_alloc_blk _ rfl 35 rfl zeroM zM ?_; intro w3 hG3 hb3 hz3)
              | (refine wpList_store_blk _ rfl 35 (.tmp 6) (.tmp 35) rfl w2.heap.size 35 zeroM (ckMsg s') rfl rfl hG3 sM rfl (msgC_one _ _ _ _ _ _ _ _ _ _ _ _ _ _ _ _ _ _) ?_; intro w4 hG4 hg4))
            have hcs := cut_size r (s0.size + 2 - k) (by omega)
            have hno : (r.extract 0 (s0.size + 2 - k)).size < 2 ∨ (r.extract 0 (s0.size + 2 - k)).size < two (r.extract 0 (s0.size + 2 - k)).data.toList 0 + 2 := by
              by_cases h3 : s0.size + 2 - k < 2
              · left; omega
              · right
                have h4 : two (r.extract 0 (s0.size + 2 - k)).data.toList 0 = two r.data.toList 0 := by
                  unfold two
                  rw [cut_getD _ _ _ (by omega), cut_getD _ _ _ (by omega)]
                rw [h4, h2]; omega
            have hb4 : Below w.heap.size w w4 := hb1.trans ((hb2.mono hb1.size).trans ((hb3.mono (by have := hb1.size; have := hb2.size; omega)).trans (below_grown hg4 (Nat.le_of_lt hz3) |>.mono (by have := hb1.size; have := hb2.size; omega))))
            refine (read_no _ (by omega) hno w4 (e0.below hb4 e0.lt)).mono ?_
            rintro e w5 ⟨rfl, hb5⟩
            clear hcs hno
            go_wp2_with (first
              | (refine wpList_alloc_blk _ rfl 35 rfl zeroM zM ?_; intro w6 hG6 hb6 hz6)
              | (refine wpList_store_blk _ rfl 35 (.tmp 8) (.tmp 45) rfl w5.heap.size 35 zeroM zeroM rfl rfl hG6 sM rfl zeroM_one ?_; intro w7 hG7 hg7))
            go_ret
            have hb5' := hb4.trans (hb5.mono hb4.size)
            exact ⟨rfl, hb5'.trans ((hb6.mono hb5'.size).trans ((below_grown hg7 (Nat.le_of_lt hz6)).mono hb5'.size))⟩
      · go_enter Tryd.func11, Tryd.ntmps11
        go_wp2
        go_ret
        exact ⟨rfl, Below.refl _ _⟩
    · go_enter Tryd.func11, Tryd.ntmps11
      go_wp2
      go_ret
      exact ⟨rfl, Below.refl _ _⟩
end Go.Proofs.YtdkncgggjhiphaaDoor.fnClientKeyPskCut
