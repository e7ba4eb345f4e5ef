/-
  THE CONTRACT OF sameMessage of package laws, for two messages that are equal field by field and whose lists are nil: it returns true and leaves memory as it was.
-/
import Derived.Test.YtdkncgggjhiphaaBase
namespace Go.Proofs.Ytdkncgggjhiphaa
open Go.RowKit

theorem listU16_nil (f : Value) (w : World) : Calls Try.prog 11 #[.slice none 0 0, .slice none 0 0, f] w fun e w' => e = .returned (.bool true) ∧ w = w' := by
  go_enter Try.func11, Try.ntmps11
  go_wp2
  refine wp_loop_rounds 1 ?_
  rw [rounds_succ]
  go_wp2
  go_ret
  exact ⟨rfl, rfl⟩
theorem listU8_nil (f : Value) (w : World) : Calls Try.prog 13 #[.slice none 0 0, .slice none 0 0, f] w fun e w' => e = .returned (.bool true) ∧ w = w' := by
  go_enter Try.func13, Try.ntmps13
  go_wp2
  refine wp_loop_rounds 1 ?_
  rw [rounds_succ]
  go_wp2
  go_ret
  exact ⟨rfl, rfl⟩
theorem listStr_nil (f : Value) (w : World) : Calls Try.prog 16 #[.slice none 0 0, .slice none 0 0, f] w fun e w' => e = .returned (.bool true) ∧ w = w' := by
  go_enter Try.func16, Try.ntmps16
  go_wp2
  refine wp_loop_rounds 1 ?_
  rw [rounds_succ]
  go_wp2
  go_ret
  exact ⟨rfl, rfl⟩
theorem listPair_nil (f : Value) (w : World) : Calls Try.prog 18 #[.slice none 0 0, .slice none 0 0, f] w fun e w' => e = .returned (.bool true) ∧ w = w' := by
  go_enter Try.func18, Try.ntmps18
  go_wp2
  refine wp_loop_rounds 1 ?_
  rw [rounds_succ]
  go_wp2
  go_ret
  exact ⟨rfl, rfl⟩
theorem listEntry_nil (f : Value) (w : World) : Calls Try.prog 20 #[.slice none 0 0, .slice none 0 0, f] w fun e w' => e = .returned (.bool true) ∧ w = w' := by
  go_enter Try.func20, Try.ntmps20
  go_wp2
  refine wp_loop_rounds 1 ?_
  rw [rounds_succ]
  go_wp2
  go_ret
  exact ⟨rfl, rfl⟩
theorem listExt_nil (f : Value) (w : World) : Calls Try.prog 24 #[.slice none 0 0, .slice none 0 0, f] w fun e w' => e = .returned (.bool true) ∧ w = w' := by
  go_enter Try.func24, Try.ntmps24
  go_wp2
  refine wp_loop_rounds 1 ?_
  rw [rounds_succ]
  go_wp2
  go_ret
  exact ⟨rfl, rfl⟩
theorem sameExts_nil (w : World) : Calls Try.prog 15 #[.slice none 0 0, .slice none 0 0] w fun e w' => e = .returned (.bool true) ∧ w = w' := by
  go_enter Try.func15, Try.ntmps15
  go_wp2_with (go_at_call 24; refine (listExt_nil _ _).mono ?_; rintro e w' ⟨rfl, rfl⟩)
  go_ret
  exact ⟨rfl, rfl⟩

/-- A message whose lists are nil. -/
def msgV (t : Int) (v13 : Bool) (maj min : Int) (time : Int) (random cookie session : ByteArray) (hash sig : Int) (signature hint pub : ByteArray) (kx ctype curve : Int) (verify context : ByteArray) : Value :=
  .agg #[.int .u8 t, .bool v13, .int .u8 maj, .int .u8 min, .int .u32 time, .string random, .string cookie, .string session, .slice none 0 0, .slice none 0 0, .slice none 0 0, .slice none 0 0, .slice none 0 0, .slice none 0 0,
    .int .u16 hash, .int .u16 sig, .string signature, .string hint, .string pub, .int .i64 kx, .int .u8 ctype, .int .u16 curve, .string verify, .string context, .slice none 0 0]

set_option maxRecDepth 100000 in
set_option maxHeartbeats 4000000 in
theorem same_msg (t : Int) (v13 : Bool) (maj min : Int) (time : Int) (random cookie session : ByteArray) (hash sig : Int) (signature hint pub : ByteArray) (kx ctype curve : Int) (verify context : ByteArray) (w : World) :
    Calls Try.prog 7 #[msgV t v13 maj min time random cookie session hash sig signature hint pub kx ctype curve verify context, msgV t v13 maj min time random cookie session hash sig signature hint pub kx ctype curve verify context] w fun e w' => e = .returned (.bool true) ∧ Below w.heap.size w w' := by
  unfold msgV
  go_enter Try.func7, Try.ntmps7
  go_wp2_with (first
    | (go_at_call 11; refine (listU16_nil _ _).mono ?_; rintro e w' ⟨rfl, rfl⟩)
    | (go_at_call 13; refine (listU8_nil _ _).mono ?_; rintro e w' ⟨rfl, rfl⟩)
    | (go_at_call 16; refine (listStr_nil _ _).mono ?_; rintro e w' ⟨rfl, rfl⟩)
    | (go_at_call 18; refine (listPair_nil _ _).mono ?_; rintro e w' ⟨rfl, rfl⟩)
    | (go_at_call 20; refine (listEntry_nil _ _).mono ?_; rintro e w' ⟨rfl, rfl⟩)
    | (go_at_call 15; refine (sameExts_nil _).mono ?_; rintro e w' ⟨rfl, rfl⟩))
  go_ret
  exact ⟨rfl, ((Below.refl _ _).alloc (Nat.le_refl _) _).alloc (by simp) _⟩
end Go.Proofs.Ytdkncgggjhiphaa
