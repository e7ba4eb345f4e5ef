/-
  CONTRACTS of the functions that the law FnCcmSizes calls.
-/
import Derived.Test.YtdkncgggjhiphaaDoorBlk
import Derived.Deep.RegionWith
import Derived.BigRegion
import Derived.BigQuiet
namespace Go.Proofs.YtdkncgggjhiphaaDoor.fnCcmSizes
open Go.ChangeShapes Go.WideShapes Go.ChangeAt Go.RowKit
set_option linter.unusedVariables false
set_option linter.unusedSimpArgs false
set_option maxRecDepth 100000 in
theorem bs_any (w : World) : Calls Tryd.prog 102 #[.agg #[.string ⟨#[]⟩]] w fun e w' => e = .returned (.int .i64 16) ∧ Below w.heap.size w w' := by
  go_enter Tryd.func102, Tryd.ntmps102
  go_wp2
  go_ret
  exact ⟨rfl, (Below.refl _ _).alloc (Nat.le_refl _) _⟩

set_option maxHeartbeats 1000000 in
set_option maxRecDepth 100000 in
theorem sizes_bad (t n : Int) (h : ¬ (4 ≤ t ∧ t ≤ 16 ∧ t % 2 = 0 ∧ 7 ≤ n ∧ n ≤ 13)) (ht : -9223372036854775808 ≤ t ∧ t ≤ 9223372036854775807) (w : World) : Calls Tryd.prog 31 #[.int .i64 t, .int .i64 n] w fun e w' => e = .returned (.bool false) ∧ w = w' := by
  have hx : t < 4 ∨ (4 ≤ t ∧ 16 < t) ∨ (t = 5 ∨ t = 7 ∨ t = 9 ∨ t = 11 ∨ t = 13 ∨ t = 15) ∨ ((t = 4 ∨ t = 6 ∨ t = 8 ∨ t = 10 ∨ t = 12 ∨ t = 14 ∨ t = 16) ∧ (n < 7 ∨ (7 ≤ n ∧ 13 < n))) := by omega
  clear h
  rcases hx with hx | ⟨hx, hy⟩ | hx | ⟨hx, hy⟩
  · go_enter Tryd.func31, Tryd.ntmps31
    go_wp2
    go_ret
    exact ⟨rfl, rfl⟩
  · go_enter Tryd.func31, Tryd.ntmps31
    go_wp2
    go_ret
    exact ⟨rfl, rfl⟩
  · clear ht
    rcases hx with rfl | rfl | rfl | rfl | rfl | rfl
    all_goals
      go_enter Tryd.func31, Tryd.ntmps31
      go_wp2
      go_ret
      exact ⟨rfl, rfl⟩
  · clear ht
    rcases hx with rfl | rfl | rfl | rfl | rfl | rfl | rfl <;> rcases hy with hy | ⟨hy, hz⟩
    all_goals
      go_enter Tryd.func31, Tryd.ntmps31
      go_wp2
      go_ret
      refine ⟨?_, rfl⟩
      first | rfl | (show Ending.returned (.bool (decide (n ≤ 13))) = _; rw [decide_eq_false (by omega)])

set_option maxHeartbeats 1000000 in
set_option maxRecDepth 100000 in
theorem sizes_ok (t n : Int) (h0 : 4 ≤ t) (h1 : t ≤ 16) (h2 : t % 2 = 0) (h3 : 7 ≤ n) (h4 : n ≤ 13) (w : World) : Calls Tryd.prog 31 #[.int .i64 t, .int .i64 n] w fun e w' => e = .returned (.bool true) ∧ w = w' := by
  have ht : t = 4 ∨ t = 6 ∨ t = 8 ∨ t = 10 ∨ t = 12 ∨ t = 14 ∨ t = 16 := by omega
  clear h0 h1 h2
  rcases ht with rfl | rfl | rfl | rfl | rfl | rfl | rfl
  all_goals
    go_enter Tryd.func31, Tryd.ntmps31
    go_wp2
    go_ret
    exact ⟨rfl, rfl⟩

def mlen (t n : Int) : Int := if n = 7 then 9223372036854775807 - t else 256 ^ (15 - n).toNat - 1

set_option maxHeartbeats 4000000 in
set_option maxRecDepth 100000 in
theorem maxlen_ok (t n : Int) (h0 : t = 4 ∨ t = 6 ∨ t = 8 ∨ t = 10 ∨ t = 12 ∨ t = 14 ∨ t = 16) (hn : n = 7 ∨ n = 8 ∨ n = 9 ∨ n = 10 ∨ n = 11 ∨ n = 12 ∨ n = 13) (w : World) :
    Calls Tryd.prog 108 #[.int .u8 (15 - n), .int .i64 t] w fun e w' => e = .returned (.int .i64 (mlen t n)) ∧ w = w' := by
  rcases h0 with rfl | rfl | rfl | rfl | rfl | rfl | rfl <;> rcases hn with rfl | rfl | rfl | rfl | rfl | rfl | rfl
  all_goals
    go_enter Tryd.func108, Tryd.ntmps108
    go_wp2
    go_ret
    exact ⟨rfl, rfl⟩

def blockV : Value := .iface 146 (.agg #[.string ⟨#[]⟩])
/-- What newCcm answers where the sizes are right. -/
def NewOk (t n : Int) (w w' : World) (e : Ending) : Prop :=
  ∃ p : Nat, e = .returned (.tuple #[.iface 152 (.pointer (some ⟨p, 0, none⟩)), .nilIface]) ∧ Blk w' p 154 #[blockV, .int .u8 t, .int .u8 (15 - n)] ∧ Below w.heap.size w w'

set_option maxHeartbeats 4000000 in
set_option maxRecDepth 100000 in
theorem new_ok (t n : Int) (h0 : t = 4 ∨ t = 6 ∨ t = 8 ∨ t = 10 ∨ t = 12 ∨ t = 14 ∨ t = 16) (hn : n = 7 ∨ n = 8 ∨ n = 9 ∨ n = 10 ∨ n = 11 ∨ n = 12 ∨ n = 13) (w : World) :
    Calls Tryd.prog 75 #[blockV, .int .i64 t, .int .i64 n] w fun e w' => NewOk t n w w' e := by
  have hmt : ∀ w : World, (method 285 146 (.agg #[.string ⟨#[]⟩]) "BlockSize").run Tryd.prog w = .ok (102, .agg #[.string ⟨#[]⟩]) w := fun _ => by kernel_rfl
  unfold blockV
  rcases h0 with rfl | rfl | rfl | rfl | rfl | rfl | rfl <;> rcases hn with rfl | rfl | rfl | rfl | rfl | rfl | rfl
  all_goals
    go_enter Tryd.func75, Tryd.ntmps75
    go_wp2_with (first
      | (go_at_call 102; refine (bs_any _).mono ?_; rintro e w1 ⟨rfl, hb1⟩)
      | (refine wpList_box_blk _ rfl 154 (.tmp 40) rfl #[_, _, _] rfl ?_; intro w2 hX2 hb2 hz2))
    go_ret2
    exact ⟨_, rfl, hX2, hb1.trans (hb2.mono hb1.size)⟩

end Go.Proofs.YtdkncgggjhiphaaDoor.fnCcmSizes
