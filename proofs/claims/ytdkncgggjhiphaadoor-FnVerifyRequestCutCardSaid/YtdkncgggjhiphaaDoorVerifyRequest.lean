/-
  CONTRACTS OF VerifyRequestRead and of what it calls: for every text of fewer than 2^32 bytes.
-/
import Derived.Test.YtdkncgggjhiphaaDoorBig
import Derived.Test.YtdkncgggjhiphaaDoorBlk
import Derived.Test.YtdkncgggjhiphaaDoorCopy
import Derived.Deep.QuietTactic
import Derived.BigQuiet
import Derived.BigRegion
namespace Go.Proofs.YtdkncgggjhiphaaDoor.fnVerifyRequestCut
open Go.ChangeShapes Go.WideShapes Go.ChangeAt Go.RowKit
set_option linter.unusedVariables false
set_option linter.unusedSimpArgs false
set_option maxRecDepth 100000 in
theorem unm_short (p : Value) (b n c : Nat) (w : World) (a : Addr) (hn : (n : Int) < 3) (hc : w.cell? ⟨1, 0, none⟩ = some (.iface 155 (.pointer (some a)))) :
    Calls Tryd.prog 38 #[p, .slice (some ⟨b, 0, none⟩) n c] w fun e w' => e = .returned (.iface 155 (.pointer (some a))) ∧ w = w' := by
  go_enter Tryd.func38, Tryd.ntmps38
  go_wp2
  go_ret
  exact ⟨rfl, rfl⟩

set_option maxHeartbeats 1000000 in
set_option maxRecDepth 100000 in
theorem unm_long (p b n c : Nat) (l : List UInt8) (w : World) (a : Addr) (hX : Blk w p 83 #[.int .u8 0, .int .u8 0, .slice none 0 0]) (hl : l.length = n) (hB : Bytes w b 0 l) (hpb : p ≠ b) (hn : 3 ≤ (n : Int)) (hm : n < 4294967296)
    (hk : (n : Int) < (l.getD 2 0).toNat + 3) (hge : 1 ≠ p)
    (hc : w.cell? ⟨1, 0, none⟩ = some (.iface 155 (.pointer (some a)))) :
    Calls Tryd.prog 38 #[.pointer (some ⟨p, 0, none⟩), .slice (some ⟨b, 0, none⟩) n c] w fun e w' => e = .returned (.iface 155 (.pointer (some a))) ∧ w.grownBy w' (some p) := by
  have k0 := hB.getD 0 (by omega)
  have k1 := hB.getD 1 (by omega)
  have k2 := hB.getD 2 (by omega)
  have x0 := hX.at 0 (.int .u8 0) rfl
  have x1 := hX.at 1 (.int .u8 0) rfl
  have f0 := hX.frozen 0
  have f1 := hX.frozen 1
  simp only [Nat.zero_add] at k0 k1 k2
  have hb2 := (l.getD 2 0).toNat_lt
  generalize (l.getD 0 0).toNat = c0 at *
  generalize (l.getD 1 0).toNat = c1 at *
  generalize (l.getD 2 0).toNat = c2 at *
  clear hX hB hl
  go_enter Tryd.func38, Tryd.ntmps38
  go_wp2
  go_ret
  exact ⟨rfl, grown_setCell (grown_setCell (grown_refl _ _) _ _) _ _⟩

/-- What Unmarshal leaves where it goes well. -/
def Kept (p k : Nat) (l : List UInt8) (w w' : World) : Prop :=
  ∃ (g : Nat) (maj min : Int), Blk w' p 83 #[.int .u8 maj, .int .u8 min, .slice (some ⟨g, 0, none⟩) k k] ∧ Bytes w' g 0 ((l.drop 3).take k) ∧ g < w'.heap.size ∧ g ≠ p ∧ w.grownBy w' (some p)

set_option maxHeartbeats 1000000 in
set_option maxRecDepth 100000 in
theorem unm_ok (p b n c k : Nat) (l : List UInt8) (w : World) (hX : Blk w p 83 #[.int .u8 0, .int .u8 0, .slice none 0 0]) (hl : l.length = n) (hB : Bytes w b 0 l) (hpb : p ≠ b) (hbw : b < w.heap.size) (hnc : n ≤ c) (hn : 3 ≤ (n : Int)) (hm : n < 4294967296)
    (hk2 : (l.getD 2 0).toNat = k) (hk : (k : Int) + 3 ≤ n) :
    Calls Tryd.prog 38 #[.pointer (some ⟨p, 0, none⟩), .slice (some ⟨b, 0, none⟩) n c] w fun e w' =>
      e = .returned .nilIface ∧ Kept p k l w w' := by
  have k0 := hB.getD 0 (by omega)
  have k1 := hB.getD 1 (by omega)
  have k2 := hB.getD 2 (by omega)
  have x0 := hX.at 0 (.int .u8 0) rfl
  have x1 := hX.at 1 (.int .u8 0) rfl
  have x2 := hX.at 2 (.slice none 0 0) rfl
  have f0 := hX.frozen 0
  have f1 := hX.frozen 1
  have f2 := hX.frozen 2
  have hp := hX.lt
  simp only [Nat.zero_add] at k0 k1 k2
  rw [hk2] at k2
  have hb2 : k < 256 := by have := (l.getD 2 0).toNat_lt; omega
  clear hk2
  generalize (l.getD 0 0).toNat = c0 at *
  generalize (l.getD 1 0).toNat = c1 at *
  go_enter Tryd.func38, Tryd.ntmps38
  go_wp2_with (refine wpList_make_bytes _ rfl (.tmp 35) (.tmp 35) 28 rfl w.heap.size 5 Tryd.underlying28 infoU8 .i64 .i64 (k : Int) (k : Int) k rfl rfl rfl rfl (by omega) (by simp) ?_; intro w1 hown hb1 hz1; have hX1 : Blk w1 p 83 #[.int .u8 c0, .int .u8 c1, .slice none 0 0] := ((hX.set_ 0 (.int .u8 c0)).set_ 1 (.int .u8 c1)).below hb1 (by simp; omega); have y2 := hX1.at 2 (.slice none 0 0) rfl; have g2 := hX1.frozen 2)
  have hX2 : Blk (w1.setCell ⟨p, 2, none⟩ (.slice (some ⟨w.heap.size, 0, none⟩) k k)) p 83 #[.int .u8 c0, .int .u8 c1, .slice (some ⟨w.heap.size, 0, none⟩) k k] := hX1.set_ 2 _
  have hB1 : Bytes w1 b 0 l := ((hB.setCell (p := ⟨p, 0, none⟩) (fun e => hpb e.symm) (.int .u8 c0)).setCell (p := ⟨p, 1, none⟩) (fun e => hpb e.symm) (.int .u8 c1)).below hb1 (by simpa using hbw)
  have hB2 := hB1.setCell (p := ⟨p, 2, none⟩) (fun e => hpb e.symm) (.slice (some ⟨w.heap.size, 0, none⟩) k k)
  have hg2 : w1.grownBy _ (some p) := grown_setCell (grown_refl w1 (some p)) 2 (.slice (some ⟨w.heap.size, 0, none⟩) k k)
  have hown1 : Own w1 w.heap.size 5 w.heap.size k (List.replicate k 0) := by simpa using hown
  have hown2 := hown1.kept hg2 (by simp; omega)
  have hgw := grown_setCell (grown_setCell (grown_refl w (some p)) 0 (.int .u8 c0)) 1 (.int .u8 c1)
  have hgw1 := grown_trans (grown_trans hgw (grown_below (by simpa using hb1) (some p))) hg2
  generalize w1.setCell ⟨p, 2, none⟩ (.slice (some ⟨w.heap.size, 0, none⟩) k k) = w2 at *
  clear hB hB1 hg2 hown hown1 hgw hb1 hX1 y2 g2 hz1
  have z2 := hX2.at 2 (.slice (some ⟨w.heap.size, 0, none⟩) k k) rfl
  have q3 : (3 : Int) ≤ 3 + (k : Int) := by omega
  have q4 : 3 + (k : Int) ≤ c := by omega
  have q2 : (0 : Int) ≤ 3 + (k : Int) := by omega
  have q1 : IntKind.i64.wrap (3 + (k : Int)) = 3 + (k : Int) := IntWalk.i64_in _ (by omega)
  have q5 : (3 + (k : Int)).toNat = 3 + k := by omega
  go_still_tail 8, (by kernel_rfl)
  change wpList _ _ _ _ _ w2.drew
  have hcl : ((l.drop 3).take k).length = k := by simp; omega
  refine wpList_copy_bytes w2.drew rfl (.tmp 42) (.tmp 46) 28 28 rfl w.heap.size 5 Tryd.underlying28 infoU8 (some ⟨w.heap.size, 0, none⟩) (if c = 3 then some ⟨b, 0, none⟩ else some ⟨b, 3, none⟩) k k k (c - 3) rfl rfl
    w.heap.size k 0 (List.replicate k 0) ((l.drop 3).take k) hown2 (by rw [hcl]; simp) ?_ (by rw [hcl]; simp) ?_
  · intro h0
    rw [hcl] at h0
    refine ⟨rfl, b, 3, ?_, ?_⟩
    · rw [if_neg (by omega)]
    · have := (hB2.drop 3).take k
      exact Bytes.drew (by simpa using this)
  intro w3 hown3 hg3
  have e0 : (List.replicate k (0 : UInt8)).take 0 ++ ((l.drop 3).take k ++ (List.replicate k (0 : UInt8)).drop (0 + ((l.drop 3).take k).length)) = (l.drop 3).take k := by
    rw [hcl]; simp
  rw [e0] at hown3
  have hX3 := hX2.drew.grown hg3 (by simp; omega)
  have hlt3 := hown3.base_le
  have hg3' := grown_new (grown_drew hgw1) hg3 (Nat.le_refl _)
  clear hgw1 hown2 hg3 z2 hB2 e0
  go_wp2
  all_goals
    go_ret
    exact ⟨rfl, w.heap.size, c0, c1, hX3, hown3.bytes, hlt3.2, by omega, hg3'⟩

def zeroMsg : Array Value := #[.int .u8 0, .bool false, .int .u8 0, .int .u8 0, .int .u32 0, .string ⟨#[]⟩, .string ⟨#[]⟩, .string ⟨#[]⟩, .slice none 0 0, .slice none 0 0, .slice none 0 0, .slice none 0 0, .slice none 0 0, .slice none 0 0, .int .u16 0, .int .u16 0, .string ⟨#[]⟩, .string ⟨#[]⟩, .string ⟨#[]⟩, .int .i64 0, .int .u8 0, .int .u16 0, .string ⟨#[]⟩, .string ⟨#[]⟩, .slice none 0 0]
def reqMsg (maj min : Int) (s : ByteArray) : Array Value := #[.int .u8 3, .bool false, .int .u8 maj, .int .u8 min, .int .u32 0, .string ⟨#[]⟩, .string s, .string ⟨#[]⟩, .slice none 0 0, .slice none 0 0, .slice none 0 0, .slice none 0 0, .slice none 0 0, .slice none 0 0, .int .u16 0, .int .u16 0, .string ⟨#[]⟩, .string ⟨#[]⟩, .string ⟨#[]⟩, .int .i64 0, .int .u8 0, .int .u16 0, .string ⟨#[]⟩, .string ⟨#[]⟩, .slice none 0 0]
theorem zmsg : (Tryd.prog.info? 35).map (·.zero) = some (some (.agg zeroMsg)) := by kernel_rfl
theorem smsg : (Tryd.prog.info? 35).map (·.size) = some 25 := by kernel_rfl
theorem build3 (w : World) : (Instr.build 35 #[(0, .int .u8 3)]).run Tryd.prog w = .ok (.agg (reqMsg 0 0 ⟨#[]⟩)) w := by kernel_rfl
theorem reqOne (maj min : Int) (s : ByteArray) : (reqMsg maj min s).all (·.oneCell') = true := by simp [reqMsg, Value.oneCell']

set_option maxHeartbeats 4000000 in
set_option maxRecDepth 100000 in
theorem data (w : World) (p g k : Nat) (maj min : Int) (l : List UInt8) (hn : l.length = k) (hX : Blk w p 83 #[.int .u8 maj, .int .u8 min, .slice (some ⟨g, 0, none⟩) k k]) (hB : Bytes w g 0 l) (hg : g < w.heap.size) :
    Calls Tryd.prog 39 #[.pointer (some ⟨p, 0, none⟩)] w fun e w' =>
      e = .returned (.agg (reqMsg maj min ⟨l.toArray⟩)) ∧ Below w.heap.size w w' := by
  have hpl := hX.lt
  go_enter Tryd.func39, Tryd.ntmps39
  go_wp2_with (first
    | (refine wpList_alloc_blk (o := ⟨some 2, _, _, _, _, _⟩) _ rfl 35 rfl zeroMsg zmsg ?_; intro w1 hR1 hb1 hz1)
    | (refine wpList_build _ rfl 35 #[(0, .const (.int .u8 3))] rfl #[(0, .int .u8 3)] rfl _ (build3 _) ?_)
    | (refine wpList_alloc_blk (o := ⟨some 3, _, _, _, _, _⟩) _ rfl 35 rfl zeroMsg zmsg ?_; intro w2 hO2 hb2 hz2)
    | (refine wpList_store_blk (y := .tmp 4) _ rfl 35 (.tmp 3) rfl w1.heap.size 35 zeroMsg (reqMsg 0 0 ⟨#[]⟩) rfl rfl hO2 smsg rfl (reqOne _ _ _) ?_; intro w3 hO3 hg3))
  have hX3 := (((hX.below hb1 hpl).below hb2 (by omega)).grown hg3 (by simp; omega))
  have hB3 : Bytes w3 g 0 l := ((hB.below hb1 hg).below hb2 (by omega)).grown hg3 (by omega) (by simp; omega)
  have hR3 : Blk w3 w.heap.size 35 zeroMsg := (hR1.below hb2 (by omega)).grown hg3 (by simp; omega)
  have x0 := hX3.at 0 (.int .u8 maj) rfl
  have x1 := hX3.at 1 (.int .u8 min) rfl
  have x2 := hX3.at 2 (.slice (some ⟨g, 0, none⟩) k k) rfl
  have o2 := hO3.at 2 (.int .u8 0) rfl
  have o3 := hO3.at 3 (.int .u8 0) rfl
  have o6 := hO3.at 6 (.string ⟨#[]⟩) rfl
  have f2 := hO3.frozen 2
  have f3 := hO3.frozen 3
  have f6 := hO3.frozen 6
  have hcv : ∀ wx : World, Bytes wx g 0 l → (convert 28 9 (.slice (some ⟨g, 0, none⟩) k k)).run Tryd.prog wx = .ok (.string ⟨l.toArray⟩) wx := fun wx hBx => by
    have := run_convert_bytes_back (P := Tryd.prog) wx 28 9 5 ⟨g, 0, none⟩ k l Tryd.underlying28 Tryd.underlying5 Tryd.underlying9 (fun j hj => by rw [add_plain]; exact hBx j hj)
    rw [hn] at this
    exact this
  have hgo : g ≠ w1.heap.size := by omega
  have c0 := hcv w3.drew hB3
  have c1 := hcv (w3.setCell ⟨w1.heap.size, 2, none⟩ (.int .u8 maj)).drew (hB3.setCell (p := ⟨w1.heap.size, 2, none⟩) hgo _)
  have c2 := hcv ((w3.setCell ⟨w1.heap.size, 2, none⟩ (.int .u8 maj)).setCell ⟨w1.heap.size, 3, none⟩ (.int .u8 min)).drew ((hB3.setCell (p := ⟨w1.heap.size, 2, none⟩) hgo _).setCell (p := ⟨w1.heap.size, 3, none⟩) hgo _)
  have c3 := hcv (w3.setCell ⟨w1.heap.size, 3, none⟩ (.int .u8 min)).drew (hB3.setCell (p := ⟨w1.heap.size, 3, none⟩) hgo _)
  have hb23 : Below w.heap.size w w3 := hb1.trans ((hb2.mono (Nat.le_of_lt hz1)).trans ((below_grown hg3 (Nat.le_of_lt hz2)).mono (Nat.le_of_lt hz1)))
  clear hX hX3 hB hB3 hb1 hb2 hg3 hR1 hO2 hcv
  go_frame
  go_region
  have hO6 : Blk (((w3.setCell ⟨w1.heap.size, 2, none⟩ (.int .u8 maj)).setCell ⟨w1.heap.size, 3, none⟩ (.int .u8 min)).setCell ⟨w1.heap.size, 6, none⟩ (.string ⟨l.toArray⟩)).drew w1.heap.size 35 (reqMsg maj min ⟨l.toArray⟩) := Blk.drew (((hO3.set_ 2 _).set_ 3 _).set_ 6 _)
  have hgR : w.heap.size ≠ w1.heap.size := by omega
  have hR6 : Blk (((w3.setCell ⟨w1.heap.size, 2, none⟩ (.int .u8 maj)).setCell ⟨w1.heap.size, 3, none⟩ (.int .u8 min)).setCell ⟨w1.heap.size, 6, none⟩ (.string ⟨l.toArray⟩)).drew w.heap.size 35 zeroMsg := Blk.drew (((hR3.far (p := ⟨w1.heap.size, 2, none⟩) hgR _).far (p := ⟨w1.heap.size, 3, none⟩) hgR _).far (p := ⟨w1.heap.size, 6, none⟩) hgR _)
  have hb6 := Below.drew (((hb23.setCell (p := ⟨w1.heap.size, 2, none⟩) (Nat.le_of_lt hz1) (.int .u8 maj)).setCell (p := ⟨w1.heap.size, 3, none⟩) (Nat.le_of_lt hz1) (.int .u8 min)).setCell (p := ⟨w1.heap.size, 6, none⟩) (Nat.le_of_lt hz1) (.string ⟨l.toArray⟩))
  generalize (((w3.setCell ⟨w1.heap.size, 2, none⟩ (.int .u8 maj)).setCell ⟨w1.heap.size, 3, none⟩ (.int .u8 min)).setCell ⟨w1.heap.size, 6, none⟩ (.string ⟨l.toArray⟩)).drew = w6 at *
  clear c0 c1 c2 c3 hO3 hR3 x0 x1 x2 o2 o3 o6 f2 f3 f6 hb23
  go_wp2_with (first
    | (refine wpList_load_blk _ rfl 35 (.tmp 3) rfl w1.heap.size 35 (reqMsg maj min ⟨l.toArray⟩) _ rfl hO6 Tryd.underlying35 rfl smsg ?_)
    | (refine wpList_store_blk (y := .tmp 23) _ rfl 35 (.tmp 2) rfl w.heap.size 35 zeroMsg (reqMsg maj min ⟨l.toArray⟩) rfl rfl hR6 smsg rfl (reqOne _ _ _) ?_; intro w7 hR7 hg7))
  refine bodyPost_ret (v := .agg (reqMsg maj min ⟨l.toArray⟩)) (results_blk _ rfl _ w.heap.size 35 _ _ rfl hR7 Tryd.underlying35 rfl smsg) rfl ⟨rfl, ?_⟩
  exact hb6.trans (below_grown hg7 hb6.size)

theorem build0 (w : World) : (Instr.build 35 #[]).run Tryd.prog w = .ok (.agg zeroMsg) w := by kernel_rfl
theorem build0X (w : World) : (Instr.build 83 #[]).run Tryd.prog w = .ok (.agg #[.int .u8 0, .int .u8 0, .slice none 0 0]) w := by kernel_rfl
theorem zeroOne : zeroMsg.all (·.oneCell') = true := by simp [zeroMsg, Value.oneCell']

/-- What VerifyRequestRead answers where it goes well. -/
def ReadYes (e : Ending) : Prop := ∃ maj min s, e = .returned (.tuple #[.agg (reqMsg maj min s), .bool true])

set_option maxHeartbeats 4000000 in
set_option maxRecDepth 100000 in
theorem read_yes (s : ByteArray) (hs : s.size < 4294967296) (h3 : 3 ≤ s.size) (hk : (s.data.toList.getD 2 0).toNat + 3 ≤ s.size) (w : World) :
    Calls Tryd.prog 16 #[.string s] w fun e w' => ReadYes e ∧ Below w.heap.size w w' := by
  have hm : s.size ≤ maxLen := by unfold maxLen; omega
  go_enter Tryd.func16, Tryd.ntmps16
  go_wp2_with (first
    | (refine wpList_alloc_blk (o := ⟨some 2, _, _, _, _, _⟩) _ rfl 35 rfl zeroMsg zmsg ?_; intro w1 hR1 hb1 hz1)
    | (refine wpList_build _ rfl 83 #[] rfl #[] rfl _ (build0X _) ?_)
    | (refine wpList_box_blk _ rfl 83 (.tmp 6) rfl #[.int .u8 0, .int .u8 0, .slice none 0 0] rfl ?_; intro w2 hX2 hb2 hz2)
    | (refine wpList_to_bytes _ rfl (.tmp 9) 9 28 5 rfl Tryd.underlying9 Tryd.underlying28 Tryd.underlying5 s rfl hm ?_; intro c w3 hc hc2 hb3 hz3 hB3))
  have hX3 := hX2.below hb3 hz2
  have hR3 : Blk w3 w.heap.size 35 zeroMsg := (hR1.below hb2 hz1).below hb3 (by omega)
  refine (unm_ok w1.heap.size w2.heap.size s.size c (s.data.toList.getD 2 0).toNat s.data.toList w3 hX3 (toList_size s) hB3 (by omega) hz3 hc (by omega) hs rfl (by omega)).mono ?_
  rintro e w4 ⟨rfl, g, maj, min, hX4, hB4, hg4, hgp, hgr4⟩
  have hR4 := hR3.grown hgr4 (by simp; omega)
  have hcl : ((s.data.toList.drop 3).take (s.data.toList.getD 2 0).toNat).length = (s.data.toList.getD 2 0).toNat := by
    have := toList_size s
    rw [List.length_take, List.length_drop]; omega
  go_wp2_with fail
  refine (data w4 w1.heap.size g _ maj min _ hcl hX4 hB4 hg4).mono ?_
  rintro e w5 ⟨rfl, hb5⟩
  have hR5 := hR4.below hb5 hR4.lt
  go_wp2_with (refine wpList_store_blk (y := .tmp 16) _ rfl 35 (.tmp 2) rfl w.heap.size 35 zeroMsg (reqMsg maj min _) rfl rfl hR5 smsg rfl (reqOne _ _ _) ?_; intro w6 hR6 hg6)
  have h4 : Below w.heap.size w w4 := hb1.trans ((hb2.mono (Nat.le_of_lt hz1)).trans ((hb3.mono (by omega)).trans ((below_grown hgr4 (by omega)).mono (Nat.le_of_lt hz1))))
  have h5 := h4.trans (hb5.mono h4.size)
  refine bodyPost_ret (v := .tuple #[.agg (reqMsg maj min _), .bool true]) (results_blk_tmp _ rfl _ w.heap.size 35 _ _ (.bool true) rfl rfl hR6 Tryd.underlying35 rfl smsg) rfl ⟨⟨maj, min, _, rfl⟩, ?_⟩
  exact h5.trans (below_grown hg6 h5.size)

set_option maxHeartbeats 4000000 in
set_option maxRecDepth 100000 in
theorem read_no (s : ByteArray) (hs : s.size < 4294967296) (hk : s.size < 3 ∨ s.size < (s.data.toList.getD 2 0).toNat + 3) (w : World) (e0 : IsErr 155 w 1) :
    Calls Tryd.prog 16 #[.string s] w fun e w' => e = .returned (.tuple #[.agg zeroMsg, .bool false]) ∧ Below w.heap.size w w' := by
  have hm : s.size ≤ maxLen := by unfold maxLen; omega
  have hlt := e0.lt
  obtain ⟨a, he⟩ := e0
  go_enter Tryd.func16, Tryd.ntmps16
  go_wp2_with (first
    | (refine wpList_alloc_blk (o := ⟨some 2, _, _, _, _, _⟩) _ rfl 35 rfl zeroMsg zmsg ?_; intro w1 hR1 hb1 hz1)
    | (refine wpList_build _ rfl 83 #[] rfl #[] rfl _ (build0X _) ?_)
    | (refine wpList_box_blk _ rfl 83 (.tmp 6) rfl #[.int .u8 0, .int .u8 0, .slice none 0 0] rfl ?_; intro w2 hX2 hb2 hz2)
    | (refine wpList_to_bytes _ rfl (.tmp 9) 9 28 5 rfl Tryd.underlying9 Tryd.underlying28 Tryd.underlying5 s rfl hm ?_; intro c w3 hc hc2 hb3 hz3 hB3))
  have hX3 := hX2.below hb3 hz2
  have hR3 : Blk w3 w.heap.size 35 zeroMsg := (hR1.below hb2 hz1).below hb3 (by omega)
  have hb13 : Below w.heap.size w w3 := hb1.trans ((hb2.mono (Nat.le_of_lt hz1)).trans (hb3.mono (by omega)))
  have he3 := (hb13.cell (p := ⟨1, 0, none⟩) hlt).trans he
  have key : Calls Tryd.prog 38 #[.pointer (some ⟨w1.heap.size, 0, none⟩), .slice (some ⟨w2.heap.size, 0, none⟩) s.size c] w3 fun e w' => e = .returned (.iface 155 (.pointer (some a))) ∧ w3.grownBy w' (some w1.heap.size) := by
    by_cases h3 : s.size < 3
    · refine (unm_short _ _ _ _ _ a (by omega) he3).mono ?_
      rintro e w' ⟨rfl, rfl⟩
      exact ⟨rfl, grown_refl _ _⟩
    · exact unm_long w1.heap.size w2.heap.size s.size c s.data.toList w3 a hX3 (toList_size s) hB3 (by omega) (by omega) hs (by omega) (by omega) he3
  refine key.mono ?_
  rintro e w4 ⟨rfl, hgr4⟩
  have hR4 := hR3.grown hgr4 (by simp; omega)
  go_wp2_with (first
    | (refine wpList_build _ rfl 35 #[] rfl #[] rfl _ (build0 _) ?_)
    | (refine wpList_store_blk (y := .tmp 14) _ rfl 35 (.tmp 2) rfl w.heap.size 35 zeroMsg zeroMsg rfl rfl hR4 smsg rfl zeroOne ?_; intro w6 hR6 hg6))
  have h4 : Below w.heap.size w w4 := hb13.trans ((below_grown hgr4 (by omega)).mono (Nat.le_of_lt hz1))
  refine bodyPost_ret (v := .tuple #[.agg zeroMsg, .bool false]) (results_blk_tmp _ rfl _ w.heap.size 35 _ _ (.bool false) rfl rfl hR6 Tryd.underlying35 rfl smsg) rfl ⟨rfl, ?_⟩
  exact h4.trans (below_grown hg6 h4.size)

end Go.Proofs.YtdkncgggjhiphaaDoor.fnVerifyRequestCut
