/-
  CONTRACTS of the functions that the law FnClientKeyPskCut calls.
-/
import Derived.Test.YtdkncgggjhiphaaDoorBig
import Derived.Test.YtdkncgggjhiphaaDoorMsg
import Derived.Test.YtdkncgggjhiphaaDoorEnd16
import Derived.BigRegion
import Derived.Maps.RangeWalk
namespace Go.Proofs.YtdkncgggjhiphaaDoor.fnClientKeyPskCut
open Go.ChangeShapes Go.WideShapes Go.ChangeAt Go.RowKit
set_option linter.unusedVariables false
set_option linter.unusedSimpArgs false
set_option maxRecDepth 100000 in
theorem unm_short (p : Value) (b n c : Nat) (w : World) (a : Addr) (hn : (n : Int) < 2) (hc : w.cell? ⟨1, 0, none⟩ = some (.iface 155 (.pointer (some a)))) :
    Calls Tryd.prog 63 #[p, .slice (some ⟨b, 0, none⟩) n c] w fun e w' => e = .returned (.iface 155 (.pointer (some a))) ∧ Below w.heap.size w w' := by
  go_enter Tryd.func63, Tryd.ntmps63
  go_wp2
  go_ret
  exact ⟨rfl, Below.refl _ _⟩

theorem has22 (w : World) : Calls Tryd.prog 76 #[.int .i64 2, .int .i64 2] w fun e w' => e = .returned (.bool true) ∧ w = w' := by
  go_enter Tryd.func76, Tryd.ntmps76
  go_wp2
  go_ret
  exact ⟨rfl, rfl⟩
theorem has24 (w : World) : Calls Tryd.prog 76 #[.int .i64 2, .int .i64 4] w fun e w' => e = .returned (.bool false) ∧ w = w' := by
  go_enter Tryd.func76, Tryd.ntmps76
  go_wp2
  go_ret
  exact ⟨rfl, rfl⟩

set_option maxHeartbeats 1000000 in
set_option maxRecDepth 100000 in
theorem unm_long (p b n c k : Nat) (l : List UInt8) (w : World) (a : Addr) (hX : Blk w p 129 #[.slice none 0 0, .slice none 0 0, .int .i64 2]) (hl : l.length = n) (hB : Bytes w b 0 l) (hn : 2 ≤ (n : Int)) (hm : n < 2147483648)
    (hk2 : two l 0 = k) (hk : (n : Int) - 2 < k)
    (hc : w.cell? ⟨1, 0, none⟩ = some (.iface 155 (.pointer (some a)))) :
    Calls Tryd.prog 63 #[.pointer (some ⟨p, 0, none⟩), .slice (some ⟨b, 0, none⟩) n c] w fun e w' => e = .returned (.iface 155 (.pointer (some a))) ∧ Below w.heap.size w w' := by
  have x2 := hX.at 2 (.int .i64 2) rfl
  have hk3 : k < 65536 := by have := two_lt l 0; omega
  have hcl := World.block_lt_of_cell? _ _ hc
  simp only at hcl
  have D := be16_bytes b 0 n c l 0 w hB (by omega) (by omega) (by omega)
  rw [hk2] at D
  have HD := Lib.hid D
  clear D hk2 hB hl
  go_enter Tryd.func63, Tryd.ntmps63
  go_wp2_with (first
    | (go_at_call 76; refine (has22 _).mono ?_; rintro e w' ⟨rfl, rfl⟩)
    | (go_at_call 68; refine HD.out.mono ?_; rintro e w1 ⟨rfl, hb1⟩; have hc1 := (hb1.cell (p := ⟨1, 0, none⟩) hcl).trans hc))
  go_ret
  exact ⟨rfl, hb1⟩

/-- What Unmarshal leaves where it goes well. -/
def Kept (p k : Nat) (l : List UInt8) (w w' : World) : Prop :=
  ∃ (g cap : Nat), Blk w' p 129 #[.slice (some ⟨g, 0, none⟩) k cap, .slice none 0 0, .int .i64 2] ∧ Bytes w' g 0 ((l.drop 2).take k) ∧ g < w'.heap.size ∧ g ≠ p ∧ w.grownBy w' (some p)

theorem infoU8' : (Tryd.prog.info? 5).map (fun i => (i.zero, i.size, i.bytes)) = some (some (.int .u8 0), 1, 1) := infoU8

set_option maxHeartbeats 2000000 in
set_option maxRecDepth 100000 in
theorem unm_ok (p b n c k : Nat) (l : List UInt8) (w : World) (hX : Blk w p 129 #[.slice none 0 0, .slice none 0 0, .int .i64 2]) (hl : l.length = n) (hB : Bytes w b 0 l) (hpb : p ≠ b) (hbw : b < w.heap.size) (hnc : n ≤ c) (hn : 2 < (n : Int)) (hm : n < 2147483648)
    (hk2 : two l 0 = k) (hk : (k : Int) + 2 ≤ n) :
    Calls Tryd.prog 63 #[.pointer (some ⟨p, 0, none⟩), .slice (some ⟨b, 0, none⟩) n c] w fun e w' => e = .returned .nilIface ∧ Kept p k l w w' := by
  have hp := hX.lt
  have x2 := hX.at 2 (.int .i64 2) rfl
  have hk3 : k < 65536 := by have := two_lt l 0; omega
  have D := be16_bytes b 0 n c l 0 w hB (by omega) (by omega) (by omega)
  rw [hk2] at D
  have HD := Lib.hid D
  clear D hk2
  have hcne : ¬ c = 2 := by omega
  have hcc : (k : Int) + 2 ≤ c := by omega
  have hlk : ((l.drop 2).take k).length = k := by simp; omega
  have hB2 : Bytes w b 2 ((l.drop 2).take k) := by simpa using (hB.drop 2).take k
  have HL := Lib.hid hlk
  clear hlk hB hl
  go_enter Tryd.func63, Tryd.ntmps63
  go_wp2_with (first
    | (go_at_call 76; refine (has22 _).mono ?_; rintro e w' ⟨rfl, rfl⟩)
    | (go_at_call 68; refine HD.out.mono ?_; rintro e w1 ⟨rfl, hb1⟩)
    | (at_builtin; refine wpList_append_bytes _ rfl (.tmp 36) (.tmp 40) 28 rfl w1.heap.size 5 Tryd.underlying28 infoU8 w1.heap.size 0 0 [] rfl rfl (Own.empty _ _ _ (Nat.le_refl _)) b 2 k (c - 2) ((l.drop 2).take k) rfl HL.out ((hB2.below hb1 hbw).alloc (by have := hb1.size; omega) _) (by omega) (by simp) ?_; intro g cap w2 hown2 hgrow2 hat2; have hw2 : Below w1.heap.size w1 w2 := (((Below.refl _ _).alloc (Nat.le_refl _) _).grown hgrow2 (by simp) (by intro k hk; cases hk; exact Nat.le_refl _)); have hX2 := (hX.below hb1 hp).below hw2 (by have := hb1.size; omega); have y0 := hX2.at 0 (.slice none 0 0) rfl; have g0 := hX2.frozen 0; have y2 := hX2.at 2 (.int .i64 2) rfl)
    | (go_at_call 76; refine (has24 _).mono ?_; rintro e w' ⟨rfl, rfl⟩))
  go_ret
  have hgb := hown2.base_le
  have hs1 := hb1.size
  have hb2 : Below w.heap.size w w2 := hb1.trans (hw2.mono hb1.size)
  exact ⟨rfl, g, cap, hX2.set_ 0 _, hown2.bytes.setCell (p := ⟨p, 0, none⟩) (by show g ≠ p; omega) _, by simpa using hgb.2, by omega, grown_setCell (grown_below hb2 (some p)) 0 _⟩

def ckMsg (s : ByteArray) : Array Value := msgC 16 false 0 0 0 ⟨#[]⟩ ⟨#[]⟩ ⟨#[]⟩ 0 0 ⟨#[]⟩ s ⟨#[]⟩ 2 0 0 ⟨#[]⟩ ⟨#[]⟩

set_option maxHeartbeats 4000000 in
set_option maxRecDepth 100000 in
theorem data (w : World) (p g k cap : Nat) (l : List UInt8) (hn : l.length = k) (hX : Blk w p 129 #[.slice (some ⟨g, 0, none⟩) k cap, .slice none 0 0, .int .i64 2]) (hB : Bytes w g 0 l) (hg : g < w.heap.size) :
    Calls Tryd.prog 64 #[.pointer (some ⟨p, 0, none⟩)] w fun e w' => e = .returned (.agg (ckMsg ⟨l.toArray⟩)) ∧ Below w.heap.size w w' := by
  have hpl := hX.lt
  go_enter Tryd.func64, Tryd.ntmps64
  go_wp2_with (first
    | (refine wpList_alloc_blk (o := ⟨some 2, _, _, _, _, _⟩) _ rfl 35 rfl zeroM zM ?_; intro w1 hR1 hb1 hz1)
    | (refine wpList_build _ rfl 35 #[(0, .const (.int .u8 16))] rfl #[(0, .int .u8 16)] rfl _ (buildTM 16 _) ?_)
    | (refine wpList_alloc_blk (o := ⟨some 3, _, _, _, _, _⟩) _ rfl 35 rfl zeroM zM ?_; intro w2 hO2 hb2 hz2)
    | (refine wpList_store_blk (y := .tmp 4) _ rfl 35 (.tmp 3) rfl w1.heap.size 35 zeroM (typeM 16) rfl rfl hO2 sM rfl (typeM_one _) ?_; intro w3 hO3 hg3))
  have hX3 := (((hX.below hb1 hpl).below hb2 (by omega)).grown hg3 (by simp; omega))
  have hB3 : Bytes w3 g 0 l := ((hB.below hb1 hg).below hb2 (by omega)).grown hg3 (by omega) (by simp; omega)
  have hR3 : Blk w3 w.heap.size 35 zeroM := (hR1.below hb2 (by omega)).grown hg3 (by simp; omega)
  have x0 := hX3.at 0 (.slice (some ⟨g, 0, none⟩) k cap) rfl
  have x1 := hX3.at 1 (.slice none 0 0) rfl
  have x2 := hX3.at 2 (.int .i64 2) rfl
  have o2 := hO3.at 17 (.string ⟨#[]⟩) rfl
  have o3 := hO3.at 18 (.string ⟨#[]⟩) rfl
  have o6 := hO3.at 19 (.int .i64 0) rfl
  have f2 := hO3.frozen 17
  have f3 := hO3.frozen 18
  have f6 := hO3.frozen 19
  have c0 : (convert 28 9 (.slice (some ⟨g, 0, none⟩) k cap)).run Tryd.prog w3.drew = .ok (.string ⟨l.toArray⟩) w3.drew := by
    have := run_convert_bytes_back (P := Tryd.prog) w3.drew 28 9 5 ⟨g, 0, none⟩ cap l Tryd.underlying28 Tryd.underlying5 Tryd.underlying9 (fun j hj => by rw [add_plain]; exact hB3.drew j hj)
    rw [hn] at this
    exact this
  have c1 : ∀ wx : World, (convert 28 9 (.slice none 0 0)).run Tryd.prog wx = .ok (.string ⟨#[]⟩) wx := fun wx =>
    run_convert_bytes_nil (P := Tryd.prog) wx 28 5 Tryd.underlying28 Tryd.underlying5 0 0 9 Tryd.underlying9
  have hb23 : Below w.heap.size w w3 := hb1.trans ((hb2.mono (Nat.le_of_lt hz1)).trans ((below_grown hg3 (Nat.le_of_lt hz2)).mono (Nat.le_of_lt hz1)))
  clear hX hX3 hB hB3 hb1 hb2 hg3 hR1 hO2
  go_frame
  go_region
  have hO6 : Blk (((w3.setCell ⟨w1.heap.size, 17, none⟩ (.string ⟨l.toArray⟩)).setCell ⟨w1.heap.size, 18, none⟩ (.string ⟨#[]⟩)).setCell ⟨w1.heap.size, 19, none⟩ (.int .i64 2)).drew w1.heap.size 35 (ckMsg ⟨l.toArray⟩) := Blk.drew (((hO3.set_ 17 _).set_ 18 _).set_ 19 _)
  have hgR : w.heap.size ≠ w1.heap.size := by omega
  have hR6 : Blk (((w3.setCell ⟨w1.heap.size, 17, none⟩ (.string ⟨l.toArray⟩)).setCell ⟨w1.heap.size, 18, none⟩ (.string ⟨#[]⟩)).setCell ⟨w1.heap.size, 19, none⟩ (.int .i64 2)).drew w.heap.size 35 zeroM := Blk.drew (((hR3.far (p := ⟨w1.heap.size, 17, none⟩) hgR _).far (p := ⟨w1.heap.size, 18, none⟩) hgR _).far (p := ⟨w1.heap.size, 19, none⟩) hgR _)
  have hb6 := Below.drew (((hb23.setCell (p := ⟨w1.heap.size, 17, none⟩) (Nat.le_of_lt hz1) (.string ⟨l.toArray⟩)).setCell (p := ⟨w1.heap.size, 18, none⟩) (Nat.le_of_lt hz1) (.string ⟨#[]⟩)).setCell (p := ⟨w1.heap.size, 19, none⟩) (Nat.le_of_lt hz1) (.int .i64 2))
  generalize (((w3.setCell ⟨w1.heap.size, 17, none⟩ (.string ⟨l.toArray⟩)).setCell ⟨w1.heap.size, 18, none⟩ (.string ⟨#[]⟩)).setCell ⟨w1.heap.size, 19, none⟩ (.int .i64 2)).drew = w6 at *
  clear c0 c1 hO3 hR3 x0 x1 x2 o2 o3 o6 f2 f3 f6 hb23
  go_wp2_with (first
    | (refine wpList_load_blk _ rfl 35 (.tmp 3) rfl w1.heap.size 35 (ckMsg ⟨l.toArray⟩) _ rfl hO6 Tryd.underlying35 rfl sM ?_)
    | (refine wpList_store_blk (y := .tmp 22) _ rfl 35 (.tmp 2) rfl w.heap.size 35 zeroM (ckMsg ⟨l.toArray⟩) rfl rfl hR6 sM rfl (msgC_one _ _ _ _ _ _ _ _ _ _ _ _ _ _ _ _ _ _) ?_; intro w7 hR7 hg7))
  refine bodyPost_ret (v := .agg (ckMsg ⟨l.toArray⟩)) (results_blk _ rfl _ w.heap.size 35 _ _ rfl hR7 Tryd.underlying35 rfl sM) rfl ⟨rfl, ?_⟩
  exact hb6.trans (below_grown hg7 hb6.size)

theorem build0X (w : World) : (Instr.build 129 #[(2, .int .i64 2)]).run Tryd.prog w = .ok (.agg #[.slice none 0 0, .slice none 0 0, .int .i64 2]) w := by kernel_rfl

/-- What ClientKeyRead answers where it goes well. -/
def ReadYes (e : Ending) : Prop := ∃ s, e = .returned (.tuple #[.agg (ckMsg s), .bool true])

set_option maxHeartbeats 4000000 in
set_option maxRecDepth 100000 in
theorem read_yes (s : ByteArray) (hs : s.size < 2147483648) (h3 : 2 < s.size) (hk : two s.data.toList 0 + 2 ≤ s.size) (w : World) :
    Calls Tryd.prog 33 #[.int .i64 2, .string s] w fun e w' => ReadYes e ∧ Below w.heap.size w w' := by
  have hm : s.size ≤ maxLen := by unfold maxLen; omega
  go_enter Tryd.func33, Tryd.ntmps33
  go_wp2_with (first
    | (refine wpList_alloc_blk _ rfl 35 rfl zeroM zM ?_; intro w1 hR1 hb1 hz1)
    | (refine wpList_build _ rfl 129 #[(2, .tmp 8)] rfl #[(2, .int .i64 2)] rfl _ (build0X _) ?_)
    | (refine wpList_box_blk _ rfl 129 (.tmp 9) rfl #[.slice none 0 0, .slice none 0 0, .int .i64 2] rfl ?_; intro w2 hX2 hb2 hz2)
    | (refine wpList_to_bytes _ rfl (.tmp 12) 9 28 5 rfl Tryd.underlying9 Tryd.underlying28 Tryd.underlying5 s rfl hm ?_; intro c w3 hc hc2 hb3 hz3 hB3))
  have hX3 := hX2.below hb3 hz2
  have hR3 : Blk w3 w.heap.size 35 zeroM := (hR1.below hb2 hz1).below hb3 (by omega)
  refine (unm_ok w1.heap.size w2.heap.size s.size c (two s.data.toList 0) s.data.toList w3 hX3 (toList_size s) hB3 (by omega) hz3 hc (by omega) hs rfl (by omega)).mono ?_
  rintro e w4 ⟨rfl, g, cap, hX4, hB4, hg4, hgp, hgr4⟩
  have hR4 := hR3.grown hgr4 (by simp; omega)
  have hcl : ((s.data.toList.drop 2).take (two s.data.toList 0)).length = two s.data.toList 0 := by
    have := toList_size s
    rw [List.length_take, List.length_drop]; omega
  go_wp2_with fail
  refine (data w4 w1.heap.size g _ cap _ hcl hX4 hB4 hg4).mono ?_
  rintro e w5 ⟨rfl, hb5⟩
  have hR5 := hR4.below hb5 hR4.lt
  go_wp2_with (refine wpList_store_blk (y := .tmp 19) _ rfl 35 (.tmp 4) rfl w.heap.size 35 zeroM (ckMsg _) rfl rfl hR5 sM rfl (msgC_one _ _ _ _ _ _ _ _ _ _ _ _ _ _ _ _ _ _) ?_; intro w6 hR6 hg6)
  have h4 : Below w.heap.size w w4 := hb1.trans ((hb2.mono (Nat.le_of_lt hz1)).trans ((hb3.mono (by omega)).trans ((below_grown hgr4 (by omega)).mono (Nat.le_of_lt hz1))))
  have h5 := h4.trans (hb5.mono h4.size)
  refine bodyPost_ret (v := .tuple #[.agg (ckMsg _), .bool true]) (results_blk_tmp _ rfl _ w.heap.size 35 _ _ (.bool true) rfl rfl hR6 Tryd.underlying35 rfl sM) rfl ⟨⟨_, rfl⟩, ?_⟩
  exact h5.trans (below_grown hg6 h5.size)

set_option maxHeartbeats 4000000 in
set_option maxRecDepth 100000 in
theorem read_no (s : ByteArray) (hs : s.size < 2147483648) (hk : s.size < 2 ∨ s.size < two s.data.toList 0 + 2) (w : World) (e0 : IsErr 155 w 1) :
    Calls Tryd.prog 33 #[.int .i64 2, .string s] w fun e w' => e = .returned (.tuple #[.agg zeroM, .bool false]) ∧ Below w.heap.size w w' := by
  have hm : s.size ≤ maxLen := by unfold maxLen; omega
  have hlt := e0.lt
  obtain ⟨a, he⟩ := e0
  go_enter Tryd.func33, Tryd.ntmps33
  go_wp2_with (first
    | (refine wpList_alloc_blk _ rfl 35 rfl zeroM zM ?_; intro w1 hR1 hb1 hz1)
    | (refine wpList_build _ rfl 129 #[(2, .tmp 8)] rfl #[(2, .int .i64 2)] rfl _ (build0X _) ?_)
    | (refine wpList_box_blk _ rfl 129 (.tmp 9) rfl #[.slice none 0 0, .slice none 0 0, .int .i64 2] rfl ?_; intro w2 hX2 hb2 hz2)
    | (refine wpList_to_bytes _ rfl (.tmp 12) 9 28 5 rfl Tryd.underlying9 Tryd.underlying28 Tryd.underlying5 s rfl hm ?_; intro c w3 hc hc2 hb3 hz3 hB3))
  have hX3 := hX2.below hb3 hz2
  have hR3 : Blk w3 w.heap.size 35 zeroM := (hR1.below hb2 hz1).below hb3 (by omega)
  have hb13 : Below w.heap.size w w3 := hb1.trans ((hb2.mono (Nat.le_of_lt hz1)).trans (hb3.mono (by omega)))
  have he3 := (hb13.cell (p := ⟨1, 0, none⟩) hlt).trans he
  have key : Calls Tryd.prog 63 #[.pointer (some ⟨w1.heap.size, 0, none⟩), .slice (some ⟨w2.heap.size, 0, none⟩) s.size c] w3 fun e w' => e = .returned (.iface 155 (.pointer (some a))) ∧ Below w3.heap.size w3 w' := by
    by_cases h3 : s.size < 2
    · exact unm_short _ _ _ _ _ a (by omega) he3
    · exact unm_long w1.heap.size w2.heap.size s.size c (two s.data.toList 0) s.data.toList w3 a hX3 (toList_size s) hB3 (by omega) hs rfl (by omega) he3
  refine key.mono ?_
  rintro e w4 ⟨rfl, hb4⟩
  have hR4 := hR3.below hb4 hR3.lt
  go_wp2_with (first
    | (refine wpList_build _ rfl 35 #[] rfl #[] rfl _ (build0M _) ?_)
    | (refine wpList_store_blk (y := .tmp 17) _ rfl 35 (.tmp 4) rfl w.heap.size 35 zeroM zeroM rfl rfl hR4 sM rfl zeroM_one ?_; intro w6 hR6 hg6))
  have h4 : Below w.heap.size w w4 := hb13.trans (hb4.mono hb13.size)
  refine bodyPost_ret (v := .tuple #[.agg zeroM, .bool false]) (results_blk_tmp _ rfl _ w.heap.size 35 _ _ (.bool false) rfl rfl hR6 Tryd.underlying35 rfl sM) rfl ⟨rfl, ?_⟩
  exact h4.trans (below_grown hg6 h4.size)

end Go.Proofs.YtdkncgggjhiphaaDoor.fnClientKeyPskCut
