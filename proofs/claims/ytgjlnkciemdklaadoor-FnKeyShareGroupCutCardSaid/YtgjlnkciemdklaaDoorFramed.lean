/-
  PLAIN LAWS ON AN EXTENSION'S TEXT: its type in two bytes, its length in two bytes, its body; and what a cut of it begins with. Conditions: type and length below 65536.
-/
import Derived.Test.YtgjlnkciemdklaaDoorRead
import Derived.Test.YtgjlnkciemdklaaDoorBig
namespace Go.Proofs.YtgjlnkciemdklaaDoor
open Go.RowKit
set_option linter.unusedVariables false
set_option linter.unusedSimpArgs false

/-- An extension's text. -/
def ex (t : Nat) (bd : List UInt8) : ByteArray := ⟨(bigL t 2 ++ (bigL bd.length 2 ++ bd)).toArray⟩
theorem ex_list (t : Nat) (bd : List UInt8) : (ex t bd).data.toList = UInt8.ofNat (t / 256) :: UInt8.ofNat t :: UInt8.ofNat (bd.length / 256) :: UInt8.ofNat bd.length :: bd := by
  simp [ex, bigL]
theorem ex_size (t : Nat) (bd : List UInt8) : (ex t bd).size = 4 + bd.length := by
  rw [← toList_size, ex_list]
  simp
  omega
theorem ex_two (t : Nat) (bd : List UInt8) (h : t < 65536) : two (ex t bd).data.toList 0 = t := by
  rw [ex_list]
  simp [two]
  omega
theorem ex_num (t : Nat) (bd : List UInt8) (h : bd.length < 65536) : numOf (((ex t bd).data.toList.drop 2).take 2) = bd.length := by
  rw [ex_list]
  simp [numOf]
  omega
theorem ex_drop (t : Nat) (bd : List UInt8) : (ex t bd).data.toList.drop 4 = bd := by
  rw [ex_list]
  rfl

/-- A text that is cut so that it is refused: the type is not there, or it is, and not all of the body. -/
def CutAt (t : Nat) (s : ByteArray) : Prop := s.size < 2 ∨ (2 ≤ s.size ∧ two s.data.toList 0 = t ∧ (s.size < 4 ∨ s.size < 4 + numOf ((s.data.toList.drop 2).take 2)))

theorem ex_cut (t : Nat) (bd : List UInt8) (k : Nat) (ht : t < 65536) (hb : bd.length < 65536) (hk : k < 4 + bd.length) : CutAt t ((ex t bd).extract 0 k) := by
  have hs := ex_size t bd
  have hc := cut_size (ex t bd) k (by omega)
  unfold CutAt
  rw [hc]
  by_cases h2 : k < 2
  · exact Or.inl h2
  · refine Or.inr ⟨by omega, ?_, ?_⟩
    · refine Eq.trans ?_ (ex_two t bd ht)
      unfold two
      rw [cut_getD _ _ _ (by omega), cut_getD _ _ _ (by omega)]
    · by_cases h4 : k < 4
      · exact Or.inl h4
      · right
        rw [cut_data]
        have : (((ex t bd).data.toList.take k).drop 2).take 2 = ((ex t bd).data.toList.drop 2).take 2 := by
          rw [List.drop_take, List.take_take, Nat.min_eq_left (by omega)]
        rw [this, ex_num t bd hb]
        omega

theorem framed_ex (t : Nat) (bd : List UInt8) (w : World) (hs : bd.length < 4294967296) (ht : t < 65536) :
    Calls Tryd.prog 17 #[.int .u16 t, .string ⟨bd.toArray⟩] w fun e w' => e = .returned (.string (ex t bd)) ∧ Below w.heap.size w w' := framed_any t ⟨bd.toArray⟩ w hs ht
end Go.Proofs.YtgjlnkciemdklaaDoor
