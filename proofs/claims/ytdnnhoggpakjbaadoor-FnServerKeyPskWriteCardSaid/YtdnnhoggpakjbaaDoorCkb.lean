/-
  CONTRACTS of makeClientKey, of MessageClientKeyExchange's Marshal and of ClientKeyWrite, with an identity and a curve's key (exchange 6). Condition: identity below 65536 bytes, key below 256.
-/
import Derived.Test.YtdnnhoggpakjbaaDoorAppStr
import Derived.Test.YtdnnhoggpakjbaaDoorText
import Derived.Deep.RegionWith
import Derived.Deep.RegionHeld3
import Derived.Deep.Cut
import Derived.BigRegion
import Derived.Lib.SliceRun
namespace Go.Proofs.YtdnnhoggpakjbaaDoor
open Go.RowKit
set_option linter.unusedVariables false
set_option linter.unusedSimpArgs false

/-- A message with an exchange, an identity and a key. -/
def mC (t kx : Int) (hint pub : ByteArray) : Array Value := #[.int .u8 t, .bool false, .int .u8 0, .int .u8 0, .int .u32 0, .string ⟨#[]⟩, .string ⟨#[]⟩, .string ⟨#[]⟩, .slice none 0 0, .slice none 0 0, .slice none 0 0, .slice none 0 0, .slice none 0 0, .slice none 0 0, .int .u16 0, .int .u16 0, .string ⟨#[]⟩, .string hint, .string pub, .int .i64 kx, .int .u8 0, .int .u16 0, .string ⟨#[]⟩, .string ⟨#[]⟩, .slice none 0 0]
theorem sMsg : (Tryd.prog.info? 33).map (·.size) = some 25 := by kernel_rfl
theorem buildM2 (t kx : Int) (a b : ByteArray) (w : World) : (Instr.build 33 #[(0, .int .u8 t), (19, .int .i64 kx), (17, .string a), (18, .string b)]).run Tryd.prog w = .ok (.agg (mC t kx a b)) w := by kernel_rfl
theorem buildM1 (t kx : Int) (a : ByteArray) (w : World) : (Instr.build 33 #[(0, .int .u8 t), (19, .int .i64 kx), (17, .string a)]).run Tryd.prog w = .ok (.agg (mC t kx a ⟨#[]⟩)) w := by kernel_rfl

theorem psk6 (w : World) : Calls Tryd.prog 20 #[.int .i64 6] w fun e w' => e = .returned (.bool true) ∧ w = w' := by
  go_enter Tryd.func20, Tryd.ntmps20
  go_wp2
  go_ret
  exact ⟨rfl, rfl⟩
theorem ecdhe6 (w : World) : Calls Tryd.prog 21 #[.int .i64 6] w fun e w' => e = .returned (.bool true) ∧ w = w' := by
  go_enter Tryd.func21, Tryd.ntmps21
  go_wp2
  go_ret
  exact ⟨rfl, rfl⟩

def MakeOk (s0 s1 : ByteArray) (w w' : World) (e : Ending) : Prop :=
  ∃ p g0 c0 g1 c1, e = .returned (.pointer (some ⟨p, 0, none⟩)) ∧ Blk w' p 60 #[.slice (some ⟨g0, 0, none⟩) s0.size c0, .slice (some ⟨g1, 0, none⟩) s1.size c1, .int .i64 6] ∧ Bytes w' g0 0 s0.data.toList ∧ Bytes w' g1 0 s1.data.toList ∧ g0 < w'.heap.size ∧ g1 < w'.heap.size ∧ Below w.heap.size w w'

set_option maxHeartbeats 8000000 in
set_option maxRecDepth 100000 in
theorem make_ok (s0 s1 : ByteArray) (h0 : s0.size < 4294967296) (h1 : s1.size < 4294967296) (w : World) :
    Calls Tryd.prog 13 #[.agg (mC 16 6 s0 s1)] w fun e w' => MakeOk s0 s1 w w' e := by
  have S0 := Lib.hid (fun w1 => some_yes s0 h0 w1)
  have S1 := Lib.hid (fun w1 => some_yes s1 h1 w1)
  clear h0 h1
  go_enter Tryd.func13, Tryd.ntmps13
  go_upto_region 1 with (first
    | (refine wpList_box_blk _ rfl 33 (.tmp 0) rfl (mC 16 6 s0 s1) rfl ?_; intro w1 hM1 hb1 hz1))
  have k17 := hM1.at 17 (.string s0) rfl
  have k18 := hM1.at 18 (.string s1) rfl
  have k19 := hM1.at 19 (.int .i64 6) rfl
  go_region_held3 (fun w' => w'.cell? ⟨w.heap.size, 17, none⟩ = some (.string s0) ∧ w'.cell? ⟨w.heap.size, 18, none⟩ = some (.string s1) ∧ w'.cell? ⟨w.heap.size, 19, none⟩ = some (.int .i64 6))
    (first | exact ⟨k17, k18, k19⟩ | exact ⟨a17, a18, a19⟩ | exact ⟨b17, b18, b19⟩ | go_keep)
    (first
    | (go_at_call 20; refine (psk6 _).mono ?_; rintro e w' ⟨rfl, rfl⟩)
    | (go_at_call 21; refine (ecdhe6 _).mono ?_; rintro e w' ⟨rfl, rfl⟩)
    | (go_at_call 19; refine (S0.out _).mono ?_; rintro e wa ⟨g0, c0, rfl, hB0, hg0, hg0', hba⟩; have a17 := (hba.cell (p := ⟨w.heap.size, 17, none⟩) hz1).trans k17; have a18 := (hba.cell (p := ⟨w.heap.size, 18, none⟩) hz1).trans k18; have a19 := (hba.cell (p := ⟨w.heap.size, 19, none⟩) hz1).trans k19)
    | (go_at_call 19; refine (S1.out _).mono ?_; rintro e wb ⟨g1, c1, rfl, hB1, hg1, hg1', hbb⟩; have hza : w.heap.size < wa.heap.size := Nat.lt_of_lt_of_le hz1 hba.size; have b17 := (hbb.cell (p := ⟨w.heap.size, 17, none⟩) hza).trans a17; have b18 := (hbb.cell (p := ⟨w.heap.size, 18, none⟩) hza).trans a18; have b19 := (hbb.cell (p := ⟨w.heap.size, 19, none⟩) hza).trans a19))
  go_wp2
  go_ret
  have hsa := hba.size
  have hsb := hbb.size
  have hall : Below w.heap.size w wb := (hb1.drew.trans (hba.mono (Nat.le_of_lt hz1))).trans (hbb.mono (by show w.heap.size ≤ wa.heap.size; exact Nat.le_trans (Nat.le_of_lt hz1) hsa))
  exact ⟨wb.heap.size, g0, c0, g1, c1, rfl, Blk.new wb _ _, (hB0.below hbb hg0').alloc (by omega) _, hB1.alloc hg1' _, by simp; omega, by simp; omega, hall.alloc hall.size _⟩

end Go.Proofs.YtdnnhoggpakjbaaDoor
