/-
  THE WALK OF THE LAW FnCcmSizes: the Go text of the law, step by step: it returns true, and what was in memory stays as it was. For every argument of the law's own types.
-/
import Derived.Test.YtdkncgggjhiphaaDoorCcmA
import Derived.Deep.RegionWith
import Derived.BigRegion
import Derived.BigQuiet
namespace Go.Proofs.YtdkncgggjhiphaaDoor.fnCcmSizes
open Go.ChangeShapes Go.WideShapes Go.ChangeAt Go.RowKit
open Go.ChangeMaps (open_string shut_string)
set_option linter.unusedVariables false
set_option linter.unusedSimpArgs false

/-- What newCcm answers where the sizes are wrong. -/
def NewBad (e : Ending) : Prop := ∃ a, e = .returned (.tuple #[.nilIface, .iface 155 (.pointer (some a))])

set_option maxHeartbeats 4000000 in
set_option maxRecDepth 100000 in
theorem new_bad (t n m : Int) (h : t < 4 ∨ (4 ≤ t ∧ 16 < t) ∨ (t = 5 ∨ t = 7 ∨ t = 9 ∨ t = 11 ∨ t = 13 ∨ t = 15) ∨ ((t = 4 ∨ t = 6 ∨ t = 8 ∨ t = 10 ∨ t = 12 ∨ t = 14 ∨ t = 16) ∧ (m < 2 ∨ (2 ≤ m ∧ 8 < m))))
    (hm : IntKind.i64.wrap (15 - n) = m) (w : World) (e1 : IsErr 155 w 13) (e2 : IsErr 155 w 14) :
    Calls Tryd.prog 75 #[blockV, .int .i64 t, .int .i64 n] w fun e w' => NewBad e ∧ Below w.heap.size w w' := by
  have l1 := e1.lt
  have l2 := e2.lt
  obtain ⟨a1, c1⟩ := e1
  obtain ⟨a2, c2⟩ := e2
  unfold blockV
  have key : ∀ (w1 : World), Below w.heap.size w w1 → w1.cell? ⟨13, 0, none⟩ = some (.iface 155 (.pointer (some a1))) ∧ w1.cell? ⟨14, 0, none⟩ = some (.iface 155 (.pointer (some a2))) :=
    fun w1 hb => ⟨(hb.cell (p := ⟨13, 0, none⟩) l1).trans c1, (hb.cell (p := ⟨14, 0, none⟩) l2).trans c2⟩
  clear c1 c2 l1 l2
  have hmt : ∀ w : World, (method 285 146 (.agg #[.string ⟨#[]⟩]) "BlockSize").run Tryd.prog w = .ok (102, .agg #[.string ⟨#[]⟩]) w := fun _ => by kernel_rfl
  rcases h with hx | ⟨hx, hy⟩ | hx | ⟨hx, hy⟩
  · go_enter Tryd.func75, Tryd.ntmps75
    go_wp2_with (go_at_call 102; refine (bs_any _).mono ?_; rintro e w1 ⟨rfl, hb1⟩; obtain ⟨k1, k2⟩ := key w1 hb1)
    go_quiet (fail)
    go_wp2
    go_ret2
    exact ⟨⟨_, rfl⟩, below_drewN hb1 _⟩
  · go_enter Tryd.func75, Tryd.ntmps75
    go_wp2_with (go_at_call 102; refine (bs_any _).mono ?_; rintro e w1 ⟨rfl, hb1⟩; obtain ⟨k1, k2⟩ := key w1 hb1)
    go_quiet (fail)
    go_wp2
    go_ret2
    exact ⟨⟨_, rfl⟩, below_drewN hb1 _⟩
  · rcases hx with rfl | rfl | rfl | rfl | rfl | rfl
    all_goals
      go_enter Tryd.func75, Tryd.ntmps75
      go_wp2_with (go_at_call 102; refine (bs_any _).mono ?_; rintro e w1 ⟨rfl, hb1⟩; obtain ⟨k1, k2⟩ := key w1 hb1)
      go_quiet (fail)
      go_wp2
      go_ret2
      exact ⟨⟨_, rfl⟩, below_drewN hb1 _⟩
  · rcases hx with rfl | rfl | rfl | rfl | rfl | rfl | rfl <;> rcases hy with hy | ⟨hy, hz⟩
    all_goals
      go_enter Tryd.func75, Tryd.ntmps75
      go_wp2_with (go_at_call 102; refine (bs_any _).mono ?_; rintro e w1 ⟨rfl, hb1⟩; obtain ⟨k1, k2⟩ := key w1 hb1)
      go_quiet (fail)
      go_wp2
      go_ret2
      exact ⟨⟨_, rfl⟩, below_drewN hb1 _⟩

set_option maxHeartbeats 4000000 in
set_option maxRecDepth 100000 in
theorem over (p : Nat) (t l : Int) (w : World) (hX : Blk w p 154 #[blockV, .int .u8 t, .int .u8 l]) (ht : 0 ≤ t ∧ t < 256) :
    Calls Tryd.prog 106 #[.pointer (some ⟨p, 0, none⟩)] w fun e w' => e = .returned (.int .i64 t) ∧ w = w' := by
  have x1 := hX.at 1 (.int .u8 t) rfl
  go_enter Tryd.func106, Tryd.ntmps106
  go_wp2
  go_ret
  exact ⟨rfl, rfl⟩

set_option maxHeartbeats 4000000 in
set_option maxRecDepth 100000 in
theorem max_ok (p : Nat) (t n : Int) (w : World) (h0 : t = 4 ∨ t = 6 ∨ t = 8 ∨ t = 10 ∨ t = 12 ∨ t = 14 ∨ t = 16) (hn : n = 7 ∨ n = 8 ∨ n = 9 ∨ n = 10 ∨ n = 11 ∨ n = 12 ∨ n = 13) (hX : Blk w p 154 #[blockV, .int .u8 t, .int .u8 (15 - n)]) :
    Calls Tryd.prog 103 #[.pointer (some ⟨p, 0, none⟩)] w fun e w' => e = .returned (.int .i64 (mlen t n)) ∧ Below w.heap.size w w' := by
  have x2 := hX.at 2 (.int .u8 (15 - n)) rfl
  have HM := Lib.hid (maxlen_ok t n h0 hn)
  have HO := Lib.hid (fun wx (h : Blk wx p 154 #[blockV, .int .u8 t, .int .u8 (15 - n)]) => over p t (15 - n) wx h (by omega))
  clear h0 hn
  generalize hl : 15 - n = l at *
  clear hl
  generalize hv : mlen t n = v at *
  clear hv
  go_enter Tryd.func103, Tryd.ntmps103
  go_wp2
  go_region_with (first
    | (go_at_call 106; refine (HO.out _ hX.drew).mono ?_; rintro e w1 ⟨rfl, rfl⟩)
    | (go_at_call 108; refine (HM.out _).mono ?_; rintro e w2 ⟨rfl, rfl⟩))
  all_goals
    go_wp2
    go_ret
    exact ⟨rfl, (Below.refl _ _).drew⟩

set_option maxHeartbeats 4000000 in
set_option maxRecDepth 100000 in
theorem limit_ok (t n : Int) (h0 : t = 4 ∨ t = 6 ∨ t = 8 ∨ t = 10 ∨ t = 12 ∨ t = 14 ∨ t = 16) (hn : n = 7 ∨ n = 8 ∨ n = 9 ∨ n = 10 ∨ n = 11 ∨ n = 12 ∨ n = 13) (w : World) :
    Calls Tryd.prog 30 #[.int .i64 t, .int .i64 n] w fun e w' => e = .returned (.tuple #[.int .i64 (mlen t n), .bool true]) ∧ Below w.heap.size w w' := by
  have HN := Lib.hid (new_ok t n h0 hn)
  have HM := Lib.hid (fun p w => max_ok p t n w h0 hn)
  clear h0 hn
  have hmt : ∀ (p : Nat) (w : World), (method 285 152 (.pointer (some ⟨p, 0, none⟩)) "MaxLength").run Tryd.prog w = .ok (103, .pointer (some ⟨p, 0, none⟩)) w := fun _ _ => by kernel_rfl
  go_enter Tryd.func30, Tryd.ntmps30
  go_wp2_with (first
    | (go_at_call 75; refine (HN.out _).mono ?_; rintro e w1 ⟨p, rfl, hX, hb1⟩)
    | (go_at_call 103; refine (HM.out p _ hX).mono ?_; rintro e w2 ⟨rfl, hb2⟩)
    | go_in)
  go_ret2
  exact ⟨rfl, hb1.trans (hb2.mono hb1.size)⟩

set_option maxHeartbeats 4000000 in
set_option maxRecDepth 100000 in
theorem limit_bad (t n m : Int) (h : t < 4 ∨ (4 ≤ t ∧ 16 < t) ∨ (t = 5 ∨ t = 7 ∨ t = 9 ∨ t = 11 ∨ t = 13 ∨ t = 15) ∨ ((t = 4 ∨ t = 6 ∨ t = 8 ∨ t = 10 ∨ t = 12 ∨ t = 14 ∨ t = 16) ∧ (m < 2 ∨ (2 ≤ m ∧ 8 < m))))
    (hm : IntKind.i64.wrap (15 - n) = m) (w : World) (e1 : IsErr 155 w 13) (e2 : IsErr 155 w 14) :
    Calls Tryd.prog 30 #[.int .i64 t, .int .i64 n] w fun e w' => e = .returned (.tuple #[.int .i64 0, .bool false]) ∧ Below w.heap.size w w' := by
  have HN := Lib.hid (new_bad t n m h hm w e1 e2)
  clear h hm e1 e2
  go_enter Tryd.func30, Tryd.ntmps30
  go_wp2_with (first
    | (go_at_call 75; refine HN.out.mono ?_; rintro e w1 ⟨⟨a, rfl⟩, hb1⟩)
    | go_in)
  go_ret2
  exact ⟨rfl, hb1⟩

set_option maxHeartbeats 4000000 in
set_option maxRecDepth 100000 in
theorem spec_ok (n v : Int) (hn : n = 8 ∧ v = 256 ^ 7 - 1 ∨ n = 9 ∧ v = 256 ^ 6 - 1 ∨ n = 10 ∧ v = 256 ^ 5 - 1 ∨ n = 11 ∧ v = 256 ^ 4 - 1 ∨ n = 12 ∧ v = 256 ^ 3 - 1 ∨ n = 13 ∧ v = 256 ^ 2 - 1) (w : World) :
    Calls Tryd.prog 32 #[.int .i64 n] w fun e w' => e = .returned (.int .i64 v) ∧ w = w' := by
  rcases hn with ⟨rfl, rfl⟩ | ⟨rfl, rfl⟩ | ⟨rfl, rfl⟩ | ⟨rfl, rfl⟩ | ⟨rfl, rfl⟩ | ⟨rfl, rfl⟩
  all_goals
    go_enter Tryd.func32, Tryd.ntmps32
    go_wp2
    go_ret
    exact ⟨rfl, rfl⟩

theorem mlen_v (t n v : Int) (hn : n = 8 ∧ v = 256 ^ 7 - 1 ∨ n = 9 ∧ v = 256 ^ 6 - 1 ∨ n = 10 ∧ v = 256 ^ 5 - 1 ∨ n = 11 ∧ v = 256 ^ 4 - 1 ∨ n = 12 ∧ v = 256 ^ 3 - 1 ∨ n = 13 ∧ v = 256 ^ 2 - 1) : mlen t n = v := by
  rcases hn with ⟨rfl, rfl⟩ | ⟨rfl, rfl⟩ | ⟨rfl, rfl⟩ | ⟨rfl, rfl⟩ | ⟨rfl, rfl⟩ | ⟨rfl, rfl⟩ <;> rfl

theorem wrap15 (n : Int) (h : -9223372036854775808 ≤ n ∧ n ≤ 9223372036854775807) (hb : n < 7 ∨ 13 < n) : ∃ m, IntKind.i64.wrap (15 - n) = m ∧ (m < 2 ∨ (2 ≤ m ∧ 8 < m)) := by
  refine ⟨_, rfl, ?_⟩
  simp only [IntKind.wrap, IntKind.bits, IntKind.signed, Bool.true_and, decide_eq_true_eq]
  simp only [show (2 : Int) ^ 64 = 18446744073709551616 by decide, show (2 : Int) ^ (64 - 1) = 9223372036854775808 by decide]
  split <;> omega

set_option maxHeartbeats 4000000 in
set_option maxRecDepth 100000 in
theorem walk (n0 : Int) (w0 : (Lit.int .i64 n0).wf = true) (n1 : Int) (w1 : (Lit.int .i64 n1).wf = true) (w : World) (e0 : IsErr 155 w 12) (e1 : IsErr 155 w 13) (e2 : IsErr 155 w 14) :
    Calls Tryd.prog 10 #[.int .i64 n0, .int .i64 n1] w fun e w' => e = .returned (.bool true) ∧ Below w.heap.size w w' := by
  clear e0
  have b0 : -9223372036854775808 ≤ n0 ∧ n0 ≤ 9223372036854775807 := bounds_i64 w0
  have b1 : -9223372036854775808 ≤ n1 ∧ n1 ≤ 9223372036854775807 := bounds_i64 w1
  by_cases hg : 4 ≤ n0 ∧ n0 ≤ 16 ∧ n0 % 2 = 0 ∧ 7 ≤ n1 ∧ n1 ≤ 13
  · obtain ⟨h0, h1, h2, h3, h4⟩ := hg
    have HL := Lib.hid (limit_ok n0 n1 (by omega) (by omega) w)
    have HS := Lib.hid (sizes_ok n0 n1 h0 h1 h2 h3 h4)
    by_cases h7 : n1 < 8
    · clear b0 b1 h0 h1 h2 h3 h4 w0 w1 e1 e2
      go_enter Tryd.func10, Tryd.ntmps10
      go_wp2_with (first
        | (go_at_call 30; refine HL.out.mono ?_; rintro e w1 ⟨rfl, hb1⟩)
        | (go_at_call 31; refine (HS.out _).mono ?_; rintro e w2 ⟨rfl, rfl⟩))
      go_ret
      exact ⟨rfl, hb1⟩
    · obtain ⟨v, hv⟩ : ∃ v : Int, n1 = 8 ∧ v = 256 ^ 7 - 1 ∨ n1 = 9 ∧ v = 256 ^ 6 - 1 ∨ n1 = 10 ∧ v = 256 ^ 5 - 1 ∨ n1 = 11 ∧ v = 256 ^ 4 - 1 ∨ n1 = 12 ∧ v = 256 ^ 3 - 1 ∨ n1 = 13 ∧ v = 256 ^ 2 - 1 := by
        rcases (show n1 = 8 ∨ n1 = 9 ∨ n1 = 10 ∨ n1 = 11 ∨ n1 = 12 ∨ n1 = 13 by omega) with h | h | h | h | h | h
        · exact ⟨_, .inl ⟨h, rfl⟩⟩
        · exact ⟨_, .inr (.inl ⟨h, rfl⟩)⟩
        · exact ⟨_, .inr (.inr (.inl ⟨h, rfl⟩))⟩
        · exact ⟨_, .inr (.inr (.inr (.inl ⟨h, rfl⟩)))⟩
        · exact ⟨_, .inr (.inr (.inr (.inr (.inl ⟨h, rfl⟩))))⟩
        · exact ⟨_, .inr (.inr (.inr (.inr (.inr ⟨h, rfl⟩))))⟩
      have HV := Lib.hid (spec_ok n1 v hv)
      rw [mlen_v n0 n1 v hv] at HL
      clear b0 b1 h0 h1 h2 h3 h4 w0 w1 e1 e2 hv
      go_enter Tryd.func10, Tryd.ntmps10
      go_wp2_with (first
        | (go_at_call 30; refine HL.out.mono ?_; rintro e w1 ⟨rfl, hb1⟩)
        | (go_at_call 31; refine (HS.out _).mono ?_; rintro e w2 ⟨rfl, rfl⟩)
        | (go_at_call 32; refine (HV.out _).mono ?_; rintro e w3 ⟨rfl, rfl⟩))
      go_ret
      exact ⟨rfl, hb1⟩
  · obtain ⟨m, hm, hm2⟩ : ∃ m, IntKind.i64.wrap (15 - n1) = m ∧ (n1 < 7 ∨ 13 < n1 → m < 2 ∨ (2 ≤ m ∧ 8 < m)) := by
      by_cases hb : n1 < 7 ∨ 13 < n1
      · obtain ⟨m, h1, h2⟩ := wrap15 n1 b1 hb
        exact ⟨m, h1, fun _ => h2⟩
      · exact ⟨_, rfl, fun h => absurd h hb⟩
    have hx : n0 < 4 ∨ (4 ≤ n0 ∧ 16 < n0) ∨ (n0 = 5 ∨ n0 = 7 ∨ n0 = 9 ∨ n0 = 11 ∨ n0 = 13 ∨ n0 = 15) ∨ ((n0 = 4 ∨ n0 = 6 ∨ n0 = 8 ∨ n0 = 10 ∨ n0 = 12 ∨ n0 = 14 ∨ n0 = 16) ∧ (m < 2 ∨ (2 ≤ m ∧ 8 < m))) := by
      by_cases hb : n1 < 7 ∨ 13 < n1
      · have := hm2 hb; omega
      · omega
    have HL := Lib.hid (limit_bad n0 n1 m hx hm w e1 e2)
    have HS := Lib.hid (sizes_bad n0 n1 hg b0)
    clear b0 b1 w0 w1 e1 e2 hg hm hm2 hx
    go_enter Tryd.func10, Tryd.ntmps10
    go_wp2_with (first
      | (go_at_call 30; refine HL.out.mono ?_; rintro e w1 ⟨rfl, hb1⟩)
      | (go_at_call 31; refine (HS.out _).mono ?_; rintro e w2 ⟨rfl, rfl⟩))
    go_ret
    exact ⟨rfl, hb1⟩
end Go.Proofs.YtdkncgggjhiphaaDoor.fnCcmSizes
