/-
  THE CONTRACT OF encoding/binary's BigEndian.Uint16: for every slice of two bytes and more.
-/
import Derived.Test.YtgjlnkciemdklaaDoorMem
import Derived.Test.YtgjlnkciemdklaaDoorBlk
import Derived.Deep.QuietTactic
import Derived.BigQuiet
import Derived.Lib.EndianBits
namespace Go.Proofs.YtgjlnkciemdklaaDoor
set_option linter.unusedSimpArgs false
set_option linter.unusedVariables false
open Go.RowKit

theorem ret_u16 {a b : Int} (h : a = b) : Ending.returned (.int .u16 a) = .returned (.int .u16 b) := by rw [h]

set_option maxRecDepth 100000 in
theorem be16_any (b off n c x0 x1 : Nat) (w : World) (h2 : 2 ≤ (n : Int)) (hx0 : x0 < 256) (hx1 : x1 < 256) (hm : (n : Int) ≤ 9223372036854775807)
    (c0 : w.cell? ⟨b, off, none⟩ = some (.int .u8 (x0 : Nat))) (c1 : w.cell? ⟨b, off + 1, none⟩ = some (.int .u8 (x1 : Nat))) :
    Calls Tryd.prog 93 #[.agg #[], .slice (some ⟨b, off, none⟩) n c] w fun e w' => e = .returned (.int .u16 ((x0 * 256 + x1 : Nat))) ∧ Below w.heap.size w w' := by
  have hb := World.block_lt_of_cell? _ _ c0
  simp only at hb
  have k0 : ∀ q, (w.alloc q).cell? ⟨b, off, none⟩ = some (.int .u8 (x0 : Nat)) := fun q => (World.cell?_alloc_lt w q ⟨b, off, none⟩ hb).trans c0
  have k1 : ∀ q, (w.alloc q).cell? ⟨b, off + 1, none⟩ = some (.int .u8 (x1 : Nat)) := fun q => (World.cell?_alloc_lt w q ⟨b, off + 1, none⟩ hb).trans c1
  have g1 : (1 : Int) < (n : Int) := by omega
  have g0 : (0 : Int) < (n : Int) := by omega
  go_enter Tryd.func93, Tryd.ntmps93
  go_wp2
  go_quiet (fail)
  go_wp2
  go_ret
  have e := Go.u16_or8 (y := (x1 : Int)) (x := (x0 : Int) * 256) (by omega) (by omega) (by omega) (by omega) (by omega)
  exact ⟨ret_u16 (by rw [e]; omega), below_drewN ((Below.refl _ _).alloc (Nat.le_refl _) _) _⟩

/-- The two bytes at a place of a run of bytes. -/
def two (l : List UInt8) (i : Nat) : Nat := (l.getD i 0).toNat * 256 + (l.getD (i + 1) 0).toNat
theorem two_lt (l : List UInt8) (i : Nat) : two l i < 65536 := by
  unfold two
  have := (l.getD i 0).toNat_lt
  have := (l.getD (i + 1) 0).toNat_lt
  omega

theorem be16_bytes (b off n c : Nat) (l : List UInt8) (i : Nat) (w : World) (hB : Bytes w b off l) (hi : i + 1 < l.length) (hn : 2 ≤ n) (hm : n ≤ 2147483648) :
    Calls Tryd.prog 93 #[.agg #[], .slice (some ⟨b, off + i, none⟩) n c] w fun e w' => e = .returned (.int .u16 ((two l i : Nat))) ∧ Below w.heap.size w w' := by
  have h0 := hB.getD i (by omega)
  have h1 := hB.getD (i + 1) hi
  exact be16_any b (off + i) n c _ _ w (by omega) (l.getD i 0).toNat_lt (l.getD (i + 1) 0).toNat_lt (by omega) h0 h1
end Go.Proofs.YtgjlnkciemdklaaDoor
