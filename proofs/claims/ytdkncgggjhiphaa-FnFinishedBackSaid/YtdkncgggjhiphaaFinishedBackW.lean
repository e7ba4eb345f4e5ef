/-
  THE WALK OF THE LAW FnFinishedBack: the Go text of the law, step by step: it returns true, and what was in memory stays as it was. For every argument of the law's own types.
-/
import Derived.Test.YtdkncgggjhiphaaSameMsg
import Derived.Test.YtdkncgggjhiphaaMem
import Derived.Test.YtdkncgggjhiphaaBlk
namespace Go.Proofs.Ytdkncgggjhiphaa.fnFinishedBack
open Go.ChangeShapes Go.WideShapes Go.ChangeAt Go.RowKit
open Go.ChangeMaps (open_string shut_string)
set_option linter.unusedVariables false

theorem infoU8 : (Try.prog.info? 5).map (fun i => (i.zero, i.size, i.bytes)) = some (some (.int .u8 0), 1, 1) := by kernel_rfl

/-- Unmarshal keeps a copy of the bytes in the message's one field. -/
theorem unm (b : Nat) (w : World) (p n c : Nat) (l : List UInt8) (hn : l.length = n) (h48 : n ≤ 140737488355328) (hB : Bytes w b 0 l) (hb : b < w.heap.size)
    (hp : w.cell? ⟨p, 0, none⟩ = some (.slice none 0 0)) (hf : w.frozen? ⟨p, 0, none⟩ = false) :
    Calls Try.prog 9 #[.pointer (some ⟨p, 0, none⟩), .slice (some ⟨b, 0, none⟩) n c] w fun e w' =>
      e = .returned .nilIface ∧ ∃ g cap, w'.cell? ⟨p, 0, none⟩ = some (.slice (some ⟨g, 0, none⟩) n cap) ∧ Bytes w' g 0 l ∧ g < w'.heap.size ∧ Below p w w' := by
  have hpl := World.block_lt_of_cell? _ _ hp
  simp at hpl
  go_enter Try.func9, Try.ntmps9
  go_wp2_with (at_builtin; refine wpList_append_bytes _ rfl (.tmp 6) (.tmp 7) 27 rfl w.heap.size 5 Try.underlying27 infoU8 w.heap.size 0 0 [] rfl rfl (Own.empty _ _ _ (Nat.le_refl _)) b 0 n c l rfl hn (hB.below ((Below.refl _ _).alloc (Nat.le_refl _) _) hb) (by omega) (by simp) ?_; intro g cap w1 hown hgrow hat; have hw1 : Below w.heap.size w w1 := (((Below.refl _ _).alloc (Nat.le_refl _) _).grown hgrow (by simp) (by intro k hk; cases hk; exact Nat.le_refl _)); have hp1 := (hw1.cell (p := ⟨p, 0, none⟩) hpl).trans hp; have hf1 := (hw1.frozen (p := ⟨p, 0, none⟩) hpl).trans hf)
  go_ret
  have hg := hown.base_le
  refine ⟨rfl, g, cap, ?_, (hown.bytes.setCell (p := ⟨p, 0, none⟩) (by show g ≠ p; omega) _), by simpa using hg.2, (hw1.mono (Nat.le_of_lt hpl)).setCell (p := ⟨p, 0, none⟩) (Nat.le_refl _) _⟩
  rw [World.cell?_setCell_same _ _ _ hp1]

theorem build20 (w : World) : (Instr.build 34 #[(0, .int .u8 20)]).run Try.prog w = .ok (msgV 20 false 0 0 0 ⟨#[]⟩ ⟨#[]⟩ ⟨#[]⟩ 0 0 ⟨#[]⟩ ⟨#[]⟩ ⟨#[]⟩ 0 0 0 ⟨#[]⟩ ⟨#[]⟩) w := by kernel_rfl

/-- The cells of a message that is all zero but for its type and what it verifies. -/
def zeroMsg : Array Value := #[.int .u8 0, .bool false, .int .u8 0, .int .u8 0, .int .u32 0, .string ⟨#[]⟩, .string ⟨#[]⟩, .string ⟨#[]⟩, .slice none 0 0, .slice none 0 0, .slice none 0 0, .slice none 0 0, .slice none 0 0, .slice none 0 0, .int .u16 0, .int .u16 0, .string ⟨#[]⟩, .string ⟨#[]⟩, .string ⟨#[]⟩, .int .i64 0, .int .u8 0, .int .u16 0, .string ⟨#[]⟩, .string ⟨#[]⟩, .slice none 0 0]
def finMsg (s : ByteArray) : Array Value := #[.int .u8 20, .bool false, .int .u8 0, .int .u8 0, .int .u32 0, .string ⟨#[]⟩, .string ⟨#[]⟩, .string ⟨#[]⟩, .slice none 0 0, .slice none 0 0, .slice none 0 0, .slice none 0 0, .slice none 0 0, .slice none 0 0, .int .u16 0, .int .u16 0, .string ⟨#[]⟩, .string ⟨#[]⟩, .string ⟨#[]⟩, .int .i64 0, .int .u8 0, .int .u16 0, .string s, .string ⟨#[]⟩, .slice none 0 0]
theorem zmsg : (Try.prog.info? 34).map (·.zero) = some (some (.agg zeroMsg)) := by kernel_rfl
theorem smsg : (Try.prog.info? 34).map (·.size) = some 25 := by kernel_rfl
theorem build20' (w : World) : (Instr.build 34 #[(0, .int .u8 20)]).run Try.prog w = .ok (.agg (finMsg ⟨#[]⟩)) w := by kernel_rfl
theorem buildFin (s : ByteArray) (w : World) : (Instr.build 34 #[(0, .int .u8 20), (22, .string s)]).run Try.prog w = .ok (.agg (finMsg s)) w := by kernel_rfl
theorem fin_msgV (s : ByteArray) : .agg (finMsg s) = msgV 20 false 0 0 0 ⟨#[]⟩ ⟨#[]⟩ ⟨#[]⟩ 0 0 ⟨#[]⟩ ⟨#[]⟩ ⟨#[]⟩ 0 0 0 s ⟨#[]⟩ := rfl
theorem finSize (s : ByteArray) : (finMsg s).size = 25 := rfl
theorem finOne (s : ByteArray) : (finMsg s).all (·.oneCell') = true := by simp [finMsg, Value.oneCell']
theorem finAt (s : ByteArray) : (finMsg s)[22]? = some (.string s) := rfl
theorem finSet (s r : ByteArray) : (finMsg s).setIfInBounds 22 (.string r) = finMsg r := rfl

set_option maxHeartbeats 4000000 in
set_option maxRecDepth 100000 in
theorem data (w : World) (p g n cap : Nat) (l : List UInt8) (hn : l.length = n) (hp : w.cell? ⟨p, 0, none⟩ = some (.slice (some ⟨g, 0, none⟩) n cap)) (hB : Bytes w g 0 l) (hg : g < w.heap.size) :
    Calls Try.prog 10 #[.pointer (some ⟨p, 0, none⟩)] w fun e w' =>
      e = .returned (.agg (finMsg ⟨l.toArray⟩)) ∧ Below w.heap.size w w' := by
  have hpl := World.block_lt_of_cell? _ _ hp
  simp only at hpl
  go_enter Try.func10, Try.ntmps10
  go_wp2_with (first
    | (refine wpList_alloc_blk (o := ⟨some 2, _, _, _, _, _⟩) _ rfl 34 rfl zeroMsg zmsg ?_; intro w1 hR1 hb1 hz1)
    | (refine wpList_build _ rfl 34 #[(0, .const (.int .u8 20))] rfl #[(0, .int .u8 20)] rfl _ (build20' _) ?_)
    | (refine wpList_alloc_blk (o := ⟨some 3, _, _, _, _, _⟩) _ rfl 34 rfl zeroMsg zmsg ?_; intro w2 hO2 hb2 hz2)
    | (refine wpList_store_blk (y := .tmp 4) _ rfl 34 (.tmp 3) rfl w1.heap.size 34 zeroMsg (finMsg ⟨#[]⟩) rfl rfl hO2 smsg rfl (finOne _) ?_; intro w3 hO3 hg3; have hp3 := ((hg3.cell_far ⟨p, 0, none⟩ (by show p < _; omega) (by simp; omega)).trans ((hb2.cell (p := ⟨p, 0, none⟩) (by show p < _; omega)).trans (hb1.cell (p := ⟨p, 0, none⟩) hpl))).trans hp; have c22 := hO3.at 22 _ rfl; have f22 := hO3.frozen 22; have hB3 : Bytes w3 g 0 l := ((hB.below hb1 hg).below hb2 (by omega)).grown hg3 (by omega) (by simp; omega); have hR3 : Blk w3 w.heap.size 34 zeroMsg := (hR1.below hb2 (by omega)).grown hg3 (by simp; omega))
    | (refine wpList_to_string _ rfl (.tmp 8) 27 9 5 rfl Try.underlying27 Try.underlying5 Try.underlying9 g 0 n cap l rfl hn hB3 ?_)
    | (refine wpList_load_blk _ rfl 34 (.tmp 3) rfl w1.heap.size 34 (finMsg ⟨l.toArray⟩) _ rfl (hO3.set_ 22 _) Try.underlying34 rfl smsg ?_)
    | (refine wpList_store_blk (y := .tmp 11) _ rfl 34 (.tmp 2) rfl w.heap.size 34 zeroMsg (finMsg ⟨l.toArray⟩) rfl rfl (hR3.far (p := ⟨w1.heap.size, 22, none⟩) (by show w.heap.size ≠ w1.heap.size; omega) _) smsg rfl (finOne _) ?_; intro w4 hR4 hg4))
  refine bodyPost_ret (v := .agg (finMsg ⟨l.toArray⟩)) (results_blk _ rfl _ w.heap.size 34 _ _ rfl hR4 Try.underlying34 rfl smsg) rfl ⟨rfl, ?_⟩
  have h3 : Below w.heap.size w w3 := hb1.trans ((hb2.mono (Nat.le_of_lt hz1)).trans ((below_grown hg3 (Nat.le_of_lt hz2)).mono (Nat.le_of_lt hz1)))
  exact (h3.setCell (p := ⟨w1.heap.size, 22, none⟩) (Nat.le_of_lt hz1) _).trans (below_grown hg4 (by have := h3.size; simp; omega))

set_option maxHeartbeats 4000000 in
set_option maxRecDepth 100000 in
theorem read (s : ByteArray) (hs : s.size ≤ maxLen) (h47 : s.size ≤ 140737488355328) (w : World) :
    Calls Try.prog 6 #[.string s] w fun e w' => e = .returned (.tuple #[.agg (finMsg s), .bool true]) ∧ Below w.heap.size w w' := by
  go_enter Try.func6, Try.ntmps6
  go_wp2_with (first
    | (refine wpList_alloc_blk (o := ⟨some 2, _, _, _, _, _⟩) _ rfl 34 rfl zeroMsg zmsg ?_; intro w1 hR1 hb1 hz1)
    | (refine wpList_box_blk _ rfl 41 (.tmp 6) rfl #[.slice none 0 0] rfl ?_; intro w2 hX2 hb2 hz2)
    | (refine wpList_to_bytes _ rfl (.tmp 9) 9 27 5 rfl Try.underlying9 Try.underlying27 Try.underlying5 s rfl hs ?_; intro c w3 hc hc2 hb3 hz3 hB3))
  have hX3 : Blk w3 w1.heap.size 41 #[.slice none 0 0] := hX2.below hb3 hz2
  have hR3 : Blk w3 w.heap.size 34 zeroMsg := (hR1.below hb2 hz1).below hb3 (by omega)
  refine (unm w2.heap.size w3 w1.heap.size s.size c s.data.toList (toList_size s) h47 hB3 hz3 (hX3.at 0 _ rfl) (hX3.frozen 0)).mono ?_
  rintro e w4 ⟨rfl, g, cap, hp4, hB4, hg4, hb4⟩
  have hR4 := hR3.below hb4 hz1
  go_wp2_with fail
  refine (data w4 w1.heap.size g s.size cap s.data.toList (toList_size s) hp4 hB4 hg4).mono ?_
  rintro e w5 ⟨rfl, hb5⟩
  have hR5 := hR4.below hb5 hR4.lt
  rw [eta_bytes]
  go_wp2_with (refine wpList_store_blk (y := .tmp 16) _ rfl 34 (.tmp 2) rfl w.heap.size 34 zeroMsg (finMsg s) rfl rfl hR5 smsg rfl (finOne _) ?_; intro w6 hR6 hg6)
  have h5 : Below w.heap.size w w5 := hb1.trans ((hb2.mono (Nat.le_of_lt hz1)).trans ((hb3.mono (by omega)).trans ((hb4.mono (Nat.le_of_lt hz1)).trans (hb5.mono (by have := hb4.size; omega)))))
  refine bodyPost_ret (v := .tuple #[.agg (finMsg s), .bool true]) (results_blk_tmp _ rfl _ w.heap.size 34 _ _ (.bool true) rfl rfl hR6 Try.underlying34 rfl smsg) rfl ⟨rfl, ?_⟩
  exact h5.trans (below_grown hg6 h5.size)

set_option maxHeartbeats 4000000 in
set_option maxRecDepth 100000 in
theorem walk (s0 : ByteArray) (w0 : s0.size ≤ maxLen) (w : World) :
    Calls Try.prog 4 #[.string s0] w fun e w' => e = .returned (.bool true) ∧ Below w.heap.size w w' := by
  by_cases hz : 2147483647 < (s0.size : Int)
  · go_enter Try.func4, Try.ntmps4
    go_wp2
    go_ret
    exact ⟨rfl, Below.refl _ _⟩
  · by_cases h1 : (s0.size : Int) < 100000
    · go_enter Try.func4, Try.ntmps4
      go_wp2_with fail
      refine (read s0 w0 (by omega) _).mono ?_
      rintro e w1 ⟨rfl, hb1⟩
      go_wp2_with (first
        | (refine wpList_alloc_blk _ rfl 34 rfl zeroMsg zmsg ?_; intro w2 hG2 hb2 hz2)
        | (refine wpList_store_blk _ rfl 34 (.tmp 3) (.tmp 15) rfl w1.heap.size 34 zeroMsg (finMsg s0) rfl rfl hG2 smsg rfl (finOne _) ?_; intro w3 hG3 hg3)
        | (refine wpList_load_blk _ rfl 34 (.tmp 3) rfl w1.heap.size 34 (finMsg s0) _ rfl hG3 Try.underlying34 rfl smsg ?_)
        | (refine wpList_build _ rfl 34 #[(0, .const (.int .u8 20)), (22, .tmp 20)] rfl #[(0, .int .u8 20), (22, .string s0)] rfl _ (buildFin s0 _) ?_))
      rw [fin_msgV]
      refine (same_msg _ _ _ _ _ _ _ _ _ _ _ _ _ _ _ _ _ _ _).mono ?_
      rintro e w4 ⟨rfl, hb4⟩
      go_wp2_with fail
      go_ret
      exact ⟨rfl, hb1.trans ((hb2.mono hb1.size).trans (((below_grown hg3 (Nat.le_of_lt hz2)).mono hb1.size).trans (hb4.mono (by have := hg3.size; have := hb1.size; omega))))⟩
    · go_enter Try.func4, Try.ntmps4
      go_wp2
      go_ret
      exact ⟨rfl, Below.refl _ _⟩
end Go.Proofs.Ytdkncgggjhiphaa.fnFinishedBack
