/-
  THE WALK OF THE LAW FnCipherSpec: the Go text of the law, step by step: it returns true, and what was in memory stays as it was. For every argument of the law's own types.
-/
import Derived.Test.YtdkncgggjhiphaaDoorText
namespace Go.Proofs.YtdkncgggjhiphaaDoor.fnCipherSpec
open Go.ChangeShapes Go.WideShapes Go.ChangeAt Go.RowKit
open Go.ChangeMaps (open_string shut_string)
set_option linter.unusedVariables false

set_option maxRecDepth 100000 in
theorem write (w : World) : Calls Tryd.prog 13 #[] w fun e w' => e = .returned (.tuple #[.string ⟨#[1]⟩, .bool true]) ∧ Below w.heap.size w w' := by
  go_enter Tryd.func13, Tryd.ntmps13
  go_wp2_with (go_at_call 36; go_in)
  refine (text_ok _ _ _ _ [1] _ rfl ?_).mono ?_
  · intro i hi; simp at hi; subst hi; simp
  rintro e w' ⟨rfl, rfl⟩
  go_wp2_with fail
  go_ret2
  exact ⟨rfl, ((Below.refl _ _).alloc (Nat.le_refl _) _).alloc (by simp) _⟩

theorem unm_yes (p : Value) (b c : Nat) (w : World) (hc : w.cell? ⟨b, 0, none⟩ = some (.int .u8 1)) :
    Calls Tryd.prog 37 #[p, .slice (some ⟨b, 0, none⟩) 1 c] w fun e w' => e = .returned .nilIface ∧ w = w' := by
  go_enter Tryd.func37, Tryd.ntmps37
  go_wp2
  go_ret
  exact ⟨rfl, rfl⟩

theorem unm_len (p : Value) (b n c : Nat) (w : World) (a : Addr) (hn : n ≠ 1) (hc : w.cell? ⟨0, 0, none⟩ = some (.iface 155 (.pointer (some a)))) :
    Calls Tryd.prog 37 #[p, .slice (some ⟨b, 0, none⟩) n c] w fun e w' => e = .returned (.iface 155 (.pointer (some a))) ∧ w = w' := by
  have h1 : ((n : Int) == 1) = false := beq_eq_false_iff_ne.2 (by omega)
  go_enter Tryd.func37, Tryd.ntmps37
  go_wp2
  go_ret
  exact ⟨rfl, rfl⟩

theorem unm_byte (p : Value) (b c : Nat) (x : Int) (w : World) (a : Addr) (hx : x ≠ 1) (h0 : w.cell? ⟨b, 0, none⟩ = some (.int .u8 x)) (hc : w.cell? ⟨0, 0, none⟩ = some (.iface 155 (.pointer (some a)))) :
    Calls Tryd.prog 37 #[p, .slice (some ⟨b, 0, none⟩) 1 c] w fun e w' => e = .returned (.iface 155 (.pointer (some a))) ∧ w = w' := by
  have h1 : (x == 1) = false := beq_eq_false_iff_ne.2 hx
  go_enter Tryd.func37, Tryd.ntmps37
  go_wp2
  go_ret
  exact ⟨rfl, rfl⟩

theorem one_iff (s : ByteArray) (h : s.size = 1) (hx : s.data.toList.getD 0 0 = 1) : s = ⟨#[1]⟩ := by
  obtain ⟨⟨l⟩⟩ := s
  match l, h with
  | [x], _ =>
    simp at hx
    subst hx
    rfl

set_option maxRecDepth 100000 in
theorem read_yes (w : World) : Calls Tryd.prog 14 #[.string ⟨#[1]⟩] w fun e w' => e = .returned (.bool true) ∧ Below w.heap.size w w' := by
  go_enter Tryd.func14, Tryd.ntmps14
  go_wp2_with (refine wpList_to_bytes _ rfl (.tmp 5) 9 28 5 rfl Tryd.underlying9 Tryd.underlying28 Tryd.underlying5 ⟨#[1]⟩ rfl (by decide) ?_; intro c w1 hc hc2 hb hz hB)
  refine (unm_yes _ _ _ _ (by simpa using hB 0 (by decide))).mono ?_
  rintro e w' ⟨rfl, rfl⟩
  go_wp2_with fail
  go_ret
  exact ⟨rfl, ((Below.refl _ _).alloc (Nat.le_refl _) _).trans (hb.mono (by simp))⟩

set_option maxRecDepth 100000 in
theorem read_no (s : ByteArray) (hs : s.size ≤ maxLen) (hne : s ≠ ⟨#[1]⟩) (w : World) (e0 : IsErr 155 w 0) :
    Calls Tryd.prog 14 #[.string s] w fun e w' => e = .returned (.bool false) ∧ Below w.heap.size w w' := by
  have hlt := e0.lt
  obtain ⟨a, he⟩ := e0
  go_enter Tryd.func14, Tryd.ntmps14
  go_wp2_with (refine wpList_to_bytes _ rfl (.tmp 5) 9 28 5 rfl Tryd.underlying9 Tryd.underlying28 Tryd.underlying5 s rfl hs ?_; intro c w1 hc hc2 hb hz hB)
  have hb0 : Below w.heap.size w w1 := ((Below.refl _ _).alloc (Nat.le_refl _) _).trans (hb.mono (by simp))
  have he1 := (hb0.cell (p := ⟨0, 0, none⟩) hlt).trans he
  by_cases h1 : s.size = 1
  · have hx : s.data.toList.getD 0 0 ≠ 1 := fun h => hne (one_iff s h1 h)
    have h0 := hB.getD 0 (by rw [toList_size]; omega)
    rw [h1]
    refine (unm_byte _ _ _ ((s.data.toList.getD 0 0).toNat : Int) _ a ?_ (by simpa using h0) he1).mono ?_
    · intro h
      apply hx
      apply UInt8.toNat_inj.1
      simpa using (by omega : (s.data.toList.getD 0 0).toNat = 1)
    rintro e w' ⟨rfl, rfl⟩
    go_wp2_with fail
    go_ret
    exact ⟨rfl, hb0⟩
  · refine (unm_len _ _ _ _ _ a h1 he1).mono ?_
    rintro e w' ⟨rfl, rfl⟩
    go_wp2_with fail
    go_ret
    exact ⟨rfl, hb0⟩

theorem walk (s0 : ByteArray) (w0 : s0.size ≤ maxLen) (w : World) (e0 : IsErr 155 w 0) :
    Calls Tryd.prog 3 #[.string s0] w fun e w' => e = .returned (.bool true) ∧ Below w.heap.size w w' := by
  by_cases hz : 2147483647 < (s0.size : Int)
  · go_enter Tryd.func3, Tryd.ntmps3
    go_wp2
    go_ret
    exact ⟨rfl, Below.refl _ _⟩
  · by_cases h1 : s0 = ⟨#[1]⟩
    · subst h1
      go_enter Tryd.func3, Tryd.ntmps3
      go_wp2_with fail
      refine (write _).mono ?_
      rintro e w1 ⟨rfl, hb1⟩
      go_wp2_with fail
      refine (read_yes _).mono ?_
      rintro e w2 ⟨rfl, hb2⟩
      go_wp2_with fail
      go_ret
      exact ⟨rfl, hb1.trans (hb2.mono hb1.size)⟩
    · have h2 : (s0.toList == [1]) = false := by
        rw [toList_data]
        refine beq_eq_false_iff_ne.2 fun h => h1 ?_
        obtain ⟨⟨l⟩⟩ := s0
        simp at h
        rw [h]
      go_enter Tryd.func3, Tryd.ntmps3
      go_wp2_with fail
      refine (write _).mono ?_
      rintro e w1 ⟨rfl, hb1⟩
      go_wp2_with fail
      refine (read_no s0 w0 h1 _ (e0.below hb1 e0.lt)).mono ?_
      rintro e w2 ⟨rfl, hb2⟩
      go_wp2_with fail
      go_ret
      exact ⟨rfl, hb1.trans (hb2.mono hb1.size)⟩
end Go.Proofs.YtdkncgggjhiphaaDoor.fnCipherSpec
