/-
  CONTRACTS of makeServerKey and of MessageServerKeyExchange's Marshal with an identity alone (exchange 2). Condition: identity below 65536 bytes.
-/
import Derived.Test.YtdnnhoggpakjbaaDoorCkc
import Derived.Test.YtdnnhoggpakjbaaDoorText
import Derived.Deep.RegionWith
import Derived.Deep.RegionHeld3
import Derived.Deep.Cut
import Derived.BigRegion
import Derived.Lib.SliceRun
namespace Go.Proofs.YtdnnhoggpakjbaaDoor
open Go.RowKit
set_option linter.unusedVariables false
set_option linter.unusedSimpArgs false


theorem psk2 (w : World) : Calls Tryd.prog 20 #[.int .i64 2] w fun e w' => e = .returned (.bool true) ∧ w = w' := by
  go_enter Tryd.func20, Tryd.ntmps20
  go_wp2
  go_ret
  exact ⟨rfl, rfl⟩

def cap0 (wx : World) : Nat := grownCap wx (⟨#[]⟩ : ByteArray).size 0 5
def cv0 (wx : World) : World := wx.drew.alloc (.cells (bytesRow ⟨#[]⟩ (grownCap wx (⟨#[]⟩ : ByteArray).size 0 5)) 5 ((bytesRow ⟨#[]⟩ (grownCap wx (⟨#[]⟩ : ByteArray).size 0 5)).size, (bytesRow ⟨#[]⟩ (grownCap wx (⟨#[]⟩ : ByteArray).size 0 5)).size + 1))
theorem cv0_run (wx : World) : (convert 9 26 (.string ⟨#[]⟩)).run Tryd.prog wx = .ok (.slice (some ⟨wx.heap.size, 0, none⟩) 0 (cap0 wx)) (cv0 wx) := run_bytes_of_string (P := Tryd.prog) wx 9 26 5 ⟨#[]⟩ Tryd.underlying9 Tryd.underlying26 Tryd.underlying5
theorem cv0_below (wx : World) : Below wx.heap.size wx (cv0 wx) := (Below.refl _ _).drew.alloc (Nat.le_refl _) _
theorem cv0_size (wx : World) : wx.heap.size < (cv0 wx).heap.size := by unfold cv0; simp

/-- The library's message with an identity alone; the two empty rows somewhere. -/
def skC (g0 c0 n0 : Nat) (u v : Value) : Array Value := #[.slice (some ⟨g0, 0, none⟩) n0 c0, .int .u8 0, .int .u16 0, u, .int .u16 0, .int .u16 0, v, .int .i64 2]
def MakeSk (s0 : ByteArray) (w w' : World) (e : Ending) : Prop :=
  ∃ p g0 c0 u v, e = .returned (.pointer (some ⟨p, 0, none⟩)) ∧ Blk w' p 69 (skC g0 c0 s0.size u v) ∧ Bytes w' g0 0 s0.data.toList ∧ g0 < w'.heap.size ∧ Below w.heap.size w w'

set_option maxHeartbeats 8000000 in
set_option maxRecDepth 100000 in
theorem make_sk (s0 : ByteArray) (h0 : s0.size < 4294967296) (w : World) :
    Calls Tryd.prog 15 #[.agg (mC 12 2 s0 ⟨#[]⟩)] w fun e w' => MakeSk s0 w w' e := by
  have S0 := Lib.hid (fun w1 => some_yes s0 h0 w1)
  clear h0
  go_enter Tryd.func15, Tryd.ntmps15
  go_upto_region 1 with (first
    | (refine wpList_box_blk _ rfl 33 (.tmp 0) rfl (mC 12 2 s0 ⟨#[]⟩) rfl ?_; intro w1 hM1 hb1 hz1))
  have k14 := hM1.at 14 (.int .u16 0) rfl
  have k15 := hM1.at 15 (.int .u16 0) rfl
  have k16 := hM1.at 16 (.string ⟨#[]⟩) rfl
  have k17 := hM1.at 17 (.string s0) rfl
  have k18 := hM1.at 18 (.string ⟨#[]⟩) rfl
  have k19 := hM1.at 19 (.int .i64 2) rfl
  have k20 := hM1.at 20 (.int .u8 0) rfl
  have k21 := hM1.at 21 (.int .u16 0) rfl
  have hK : ∀ wx : World, w.heap.size < wx.heap.size → (wx.cell? ⟨w.heap.size, 14, none⟩ = some (.int .u16 0) ∧ wx.cell? ⟨w.heap.size, 15, none⟩ = some (.int .u16 0) ∧ wx.cell? ⟨w.heap.size, 16, none⟩ = some (.string ⟨#[]⟩) ∧ wx.cell? ⟨w.heap.size, 17, none⟩ = some (.string s0) ∧ wx.cell? ⟨w.heap.size, 18, none⟩ = some (.string ⟨#[]⟩) ∧ wx.cell? ⟨w.heap.size, 19, none⟩ = some (.int .i64 2) ∧ wx.cell? ⟨w.heap.size, 20, none⟩ = some (.int .u8 0) ∧ wx.cell? ⟨w.heap.size, 21, none⟩ = some (.int .u16 0)) → ((cv0 wx).cell? ⟨w.heap.size, 14, none⟩ = some (.int .u16 0) ∧ (cv0 wx).cell? ⟨w.heap.size, 15, none⟩ = some (.int .u16 0) ∧ (cv0 wx).cell? ⟨w.heap.size, 16, none⟩ = some (.string ⟨#[]⟩) ∧ (cv0 wx).cell? ⟨w.heap.size, 17, none⟩ = some (.string s0) ∧ (cv0 wx).cell? ⟨w.heap.size, 18, none⟩ = some (.string ⟨#[]⟩) ∧ (cv0 wx).cell? ⟨w.heap.size, 19, none⟩ = some (.int .i64 2) ∧ (cv0 wx).cell? ⟨w.heap.size, 20, none⟩ = some (.int .u8 0) ∧ (cv0 wx).cell? ⟨w.heap.size, 21, none⟩ = some (.int .u16 0)) := by
    rintro wx hz ⟨h1, h2, h3, h4, h5, h6, h7, h8⟩
    have hc : ∀ (i : Nat) (u : Value), wx.cell? ⟨w.heap.size, i, none⟩ = some u → (cv0 wx).cell? ⟨w.heap.size, i, none⟩ = some u := fun i u h => ((cv0_below wx).cell (p := ⟨w.heap.size, i, none⟩) hz).trans h
    exact ⟨hc _ _ h1, hc _ _ h2, hc _ _ h3, hc _ _ h4, hc _ _ h5, hc _ _ h6, hc _ _ h7, hc _ _ h8⟩
  have HK := Lib.hid hK
  have HK1 := Lib.hid (hK w1.drew hz1 ⟨k14, k15, k16, k17, k18, k19, k20, k21⟩)
  have hzc1 : w.heap.size < (cv0 w1.drew).heap.size := Nat.lt_trans hz1 (cv0_size w1.drew)
  have HK2 := Lib.hid (hK (cv0 w1.drew) hzc1 HK1.out)
  have hzc2 : w.heap.size < (cv0 (cv0 w1.drew)).heap.size := Nat.lt_trans hzc1 (cv0_size _)
  have HZ1 := Lib.hid hzc1
  have HZ2 := Lib.hid hzc2
  have BB0 := Lib.hid hb1.drew
  have BB1 := Lib.hid (hb1.drew.trans ((cv0_below w1.drew).mono (Nat.le_of_lt hz1)))
  have BB2 := Lib.hid (BB1.out.trans ((cv0_below (cv0 w1.drew)).mono (Nat.le_of_lt hzc1)))
  have hcv := cv0_run
  clear hK hzc1 hzc2
  have FINL : ∀ (g0 c0 : Nat) (wa : World), Bytes wa g0 0 s0.data.toList → g0 < wa.heap.size → w.heap.size < wa.heap.size → Below w.heap.size w wa → ∀ (F : World) (u v : Value), Below wa.heap.size wa F → MakeSk s0 w (F.alloc (.cells (skC g0 c0 s0.size u v) 69)) (.returned (.pointer (some ⟨F.heap.size, 0, none⟩))) := fun g0 c0 wa hB0 hg0' hza hbw F u v h =>
    ⟨F.heap.size, g0, c0, u, v, rfl, Blk.new F _ _, (hB0.below h hg0').alloc (Nat.lt_of_lt_of_le hg0' h.size) _, by (have := h.size; simp; omega), (hbw.trans (h.mono (Nat.le_of_lt hza))).alloc (Nat.le_trans hbw.size h.size) _⟩
  have HFINL := Lib.hid FINL
  clear FINL
  refine wp_region_held_drew (S := (fun w' => w'.cell? ⟨w.heap.size, 14, none⟩ = some (.int .u16 0) ∧ w'.cell? ⟨w.heap.size, 15, none⟩ = some (.int .u16 0) ∧ w'.cell? ⟨w.heap.size, 16, none⟩ = some (.string ⟨#[]⟩) ∧ w'.cell? ⟨w.heap.size, 17, none⟩ = some (.string s0) ∧ w'.cell? ⟨w.heap.size, 18, none⟩ = some (.string ⟨#[]⟩) ∧ w'.cell? ⟨w.heap.size, 19, none⟩ = some (.int .i64 2) ∧ w'.cell? ⟨w.heap.size, 20, none⟩ = some (.int .u8 0) ∧ w'.cell? ⟨w.heap.size, 21, none⟩ = some (.int .u16 0))) (by kernel_rfl) ?_ (fun hHeld => ?_)
  · (try dsimp only); exact ⟨k14, k15, k16, k17, k18, k19, k20, k21⟩
  refine wpAnyH_take (i := 0) (v := ?_) rfl (by kernel_rfl) (by kernel_rfl) (by kernel_rfl) (fun _ _ _ h => h) (Or.inl ⟨by rfl, ?_⟩) (by assumption) ?_
  rotate_left
  focus (intro w hSw; (try dsimp only at hSw); go_simp; try with_reducible rfl)
  try simp only [Act.put, List.setIfInBounds_toArray, List.set_cons_zero, List.set_cons_succ]
  refine wpAnyH_take (i := 1) (v := ?_) rfl (by kernel_rfl) (by kernel_rfl) (by kernel_rfl) (fun _ _ _ h => h) (Or.inl ⟨by rfl, ?_⟩) (by assumption) ?_
  rotate_left
  focus (intro w hSw; (try dsimp only at hSw); go_simp; try with_reducible rfl)
  try simp only [Act.put, List.setIfInBounds_toArray, List.set_cons_zero, List.set_cons_succ]
  refine wpAnyH_take (i := 3) (v := ?_) rfl (by kernel_rfl) (by kernel_rfl) (by kernel_rfl) (fun _ _ _ h => h) (Or.inl ⟨by rfl, ?_⟩) (by assumption) ?_
  rotate_left
  focus (intro w hSw; (try dsimp only at hSw); go_simp; try with_reducible rfl)
  try simp only [Act.put, List.setIfInBounds_toArray, List.set_cons_zero, List.set_cons_succ]
  refine wpAnyH_take (i := 4) (v := ?_) rfl (by kernel_rfl) (by kernel_rfl) (by kernel_rfl) (fun _ _ _ h => h) (Or.inl ⟨by rfl, ?_⟩) (by assumption) ?_
  rotate_left
  focus (intro w hSw; (try dsimp only at hSw); go_simp; try with_reducible rfl)
  try simp only [Act.put, List.setIfInBounds_toArray, List.set_cons_zero, List.set_cons_succ]
  refine wpAnyH_take (i := 6) (v := ?_) rfl (by kernel_rfl) (by kernel_rfl) (by kernel_rfl) (fun _ _ _ h => h) (Or.inl ⟨by rfl, ?_⟩) (by assumption) ?_
  rotate_left
  focus (intro w hSw; (try dsimp only at hSw); go_simp; try with_reducible rfl)
  try simp only [Act.put, List.setIfInBounds_toArray, List.set_cons_zero, List.set_cons_succ]
  refine wpAnyH_take (i := 7) (v := ?_) rfl (by kernel_rfl) (by kernel_rfl) (by kernel_rfl) (fun _ _ _ h => h) (Or.inl ⟨by rfl, ?_⟩) (by assumption) ?_
  rotate_left
  focus (intro w hSw; (try dsimp only at hSw); go_simp; try with_reducible rfl)
  try simp only [Act.put, List.setIfInBounds_toArray, List.set_cons_zero, List.set_cons_succ]
  refine wpAnyH_take (i := 8) (v := ?_) rfl (by kernel_rfl) (by kernel_rfl) (by kernel_rfl) (fun _ _ _ h => h) (Or.inl ⟨by rfl, ?_⟩) (by assumption) ?_
  rotate_left
  focus (intro w hSw; (try dsimp only at hSw); go_simp; try with_reducible rfl)
  try simp only [Act.put, List.setIfInBounds_toArray, List.set_cons_zero, List.set_cons_succ]
  refine wpAnyH_take (i := 9) (v := ?_) rfl (by kernel_rfl) (by kernel_rfl) (by kernel_rfl) (fun _ _ _ h => h) (Or.inl ⟨by rfl, ?_⟩) (by assumption) ?_
  rotate_left
  focus (intro w hSw; (try dsimp only at hSw); go_simp; try with_reducible rfl)
  try simp only [Act.put, List.setIfInBounds_toArray, List.set_cons_zero, List.set_cons_succ]
  refine wpAnyH_take (i := 10) (v := ?_) rfl (by kernel_rfl) (by kernel_rfl) (by kernel_rfl) (fun _ _ _ h => h) (Or.inl ⟨by rfl, ?_⟩) (by assumption) ?_
  rotate_left
  focus (intro w hSw; (try dsimp only at hSw); go_simp; try with_reducible rfl)
  try simp only [Act.put, List.setIfInBounds_toArray, List.set_cons_zero, List.set_cons_succ]
  refine wpAnyH_take (i := 11) (v := ?_) rfl (by kernel_rfl) (by kernel_rfl) (by kernel_rfl) (fun _ _ _ h => h) (Or.inl ⟨by rfl, ?_⟩) (by assumption) ?_
  rotate_left
  focus (intro w hSw; (try dsimp only at hSw); go_simp; try with_reducible rfl)
  try simp only [Act.put, List.setIfInBounds_toArray, List.set_cons_zero, List.set_cons_succ]
  refine wpAnyH_take (i := 13) (v := ?_) rfl (by kernel_rfl) (by kernel_rfl) (by kernel_rfl) (fun _ _ _ h => h) (Or.inl ⟨by rfl, ?_⟩) (by assumption) ?_
  rotate_left
  focus (intro w hSw; (try dsimp only at hSw); go_simp; try with_reducible rfl)
  try simp only [Act.put, List.setIfInBounds_toArray, List.set_cons_zero, List.set_cons_succ]
  refine wpAnyH_take (i := 14) (v := ?_) rfl (by kernel_rfl) (by kernel_rfl) (by kernel_rfl) (fun _ _ _ h => h) (Or.inl ⟨by rfl, ?_⟩) (by assumption) ?_
  rotate_left
  focus (intro w hSw; (try dsimp only at hSw); go_simp; try with_reducible rfl)
  try simp only [Act.put, List.setIfInBounds_toArray, List.set_cons_zero, List.set_cons_succ]
  refine wpAnyH_take (i := 15) (v := ?_) rfl (by kernel_rfl) (by kernel_rfl) (by kernel_rfl) (fun _ _ _ h => h) (Or.inl ⟨by rfl, ?_⟩) (by assumption) ?_
  rotate_left
  focus (intro w hSw; (try dsimp only at hSw); go_simp; try with_reducible rfl)
  try simp only [Act.put, List.setIfInBounds_toArray, List.set_cons_zero, List.set_cons_succ]
  refine wpAnyH_take (i := 16) (v := ?_) rfl (by kernel_rfl) (by kernel_rfl) (by kernel_rfl) (fun _ _ _ h => h) (Or.inl ⟨by rfl, ?_⟩) (by assumption) ?_
  rotate_left
  focus (intro w hSw; (try dsimp only at hSw); go_simp; try with_reducible rfl)
  try simp only [Act.put, List.setIfInBounds_toArray, List.set_cons_zero, List.set_cons_succ]
  refine wpAnyH_take (i := 17) (v := ?_) rfl (by kernel_rfl) (by kernel_rfl) (by kernel_rfl) (fun _ _ _ h => h) (Or.inl ⟨by rfl, ?_⟩) (by assumption) ?_
  rotate_left
  focus (intro w hSw; (try dsimp only at hSw); go_simp; try with_reducible rfl)
  try simp only [Act.put, List.setIfInBounds_toArray, List.set_cons_zero, List.set_cons_succ]
  refine wpAnyH_take (i := 18) (v := ?_) rfl (by kernel_rfl) (by kernel_rfl) (by kernel_rfl) (fun _ _ _ h => h) (Or.inl ⟨by rfl, ?_⟩) (by assumption) ?_
  rotate_left
  focus (intro w hSw; (try dsimp only at hSw); go_simp; try with_reducible rfl)
  try simp only [Act.put, List.setIfInBounds_toArray, List.set_cons_zero, List.set_cons_succ]
  refine wpAnyH_take (i := 20) (v := ?_) rfl (by kernel_rfl) (by kernel_rfl) (by kernel_rfl) (fun _ _ _ h => h) (Or.inl ⟨by rfl, ?_⟩) (by assumption) ?_
  rotate_left
  focus (intro w hSw; (try dsimp only at hSw); go_simp; try with_reducible rfl)
  try simp only [Act.put, List.setIfInBounds_toArray, List.set_cons_zero, List.set_cons_succ]
  refine wpAnyH_take (i := 21) (v := ?_) rfl (by kernel_rfl) (by kernel_rfl) (by kernel_rfl) (fun _ _ _ h => h) (Or.inl ⟨by rfl, ?_⟩) (by assumption) ?_
  rotate_left
  focus (intro w hSw; (try dsimp only at hSw); go_simp; try with_reducible rfl)
  try simp only [Act.put, List.setIfInBounds_toArray, List.set_cons_zero, List.set_cons_succ]
  refine wpAnyH_ready (rs := [2, 12, 19]) (by kernel_rfl) (by simp) ?_
  refine AllReadyH.cons rfl (fun K hK => ?_) ?_
  · go_simp
    refine (psk2 _).mono ?_
    rintro e w' ⟨rfl, rfl⟩
    go_wp2_with fail
    refine hK.out _ _ ?_ (fun hHeld => ?_)
    · (try dsimp only); exact ⟨k14, k15, k16, k17, k18, k19, k20, k21⟩
    clear hK K
    try simp only [Act.put, List.setIfInBounds_toArray, List.set_cons_zero, List.set_cons_succ]
    refine wpAnyH_ready (rs := [5, 12, 19]) (by kernel_rfl) (by simp) ?_
    refine AllReadyH.cons rfl (fun K hK => ?_) ?_
    · go_simp
      refine (S0.out _).mono ?_
      rintro e wa ⟨g0, c0, rfl, hB0, hg0, hg0', hba⟩
      have a14 := (hba.cell (p := ⟨w.heap.size, 14, none⟩) hz1).trans k14
      have a15 := (hba.cell (p := ⟨w.heap.size, 15, none⟩) hz1).trans k15
      have a16 := (hba.cell (p := ⟨w.heap.size, 16, none⟩) hz1).trans k16
      have a17 := (hba.cell (p := ⟨w.heap.size, 17, none⟩) hz1).trans k17
      have a18 := (hba.cell (p := ⟨w.heap.size, 18, none⟩) hz1).trans k18
      have a19 := (hba.cell (p := ⟨w.heap.size, 19, none⟩) hz1).trans k19
      have a20 := (hba.cell (p := ⟨w.heap.size, 20, none⟩) hz1).trans k20
      have a21 := (hba.cell (p := ⟨w.heap.size, 21, none⟩) hz1).trans k21
      have hza : w.heap.size < wa.heap.size := Nat.lt_of_lt_of_le hz1 hba.size
      have hbw : Below w.heap.size w wa := BB0.out.trans (hba.mono (Nat.le_of_lt hz1))
      go_wp2_with fail
      refine hK.out _ _ ?_ (fun hHeld => ?_)
      · (try dsimp only); exact ⟨a14, a15, a16, a17, a18, a19, a20, a21⟩
      clear hK K
      try simp only [Act.put, List.setIfInBounds_toArray, List.set_cons_zero, List.set_cons_succ]
      refine wpAnyH_ready (rs := [12, 19]) (by kernel_rfl) (by simp) ?_
      refine AllReadyH.cons rfl (fun K hK => ?_) ?_
      · go_simp
        refine hK.out _ _ ?_ (fun hHeld => ?_)
        · (try dsimp only); exact HK.out wa hza ⟨a14, a15, a16, a17, a18, a19, a20, a21⟩
        clear hK K
        try simp only [Act.put, List.setIfInBounds_toArray, List.set_cons_zero, List.set_cons_succ]
        refine wpAnyH_ready (rs := [19]) (by kernel_rfl) (by simp) ?_
        refine AllReadyH.cons rfl (fun K hK => ?_) ?_
        · go_simp
          refine hK.out _ _ ?_ (fun hHeld => ?_)
          · (try dsimp only); exact HK.out (cv0 wa) (Nat.lt_trans hza (cv0_size wa)) (HK.out wa hza ⟨a14, a15, a16, a17, a18, a19, a20, a21⟩)
          clear hK K
          try simp only [Act.put, List.setIfInBounds_toArray, List.set_cons_zero, List.set_cons_succ]
          refine wpAnyH_take (i := 22) (v := ?_) rfl (by kernel_rfl) (by kernel_rfl) (by kernel_rfl) (fun _ _ _ h => h) (Or.inl ⟨by rfl, ?_⟩) (by assumption) ?_
          rotate_left
          focus (intro w hSw; (try dsimp only at hSw); go_simp; try with_reducible rfl)
          try simp only [Act.put, List.setIfInBounds_toArray, List.set_cons_zero, List.set_cons_succ]
          refine wpAnyH_ready (rs := [23]) (by kernel_rfl) (by simp) ?_
          refine AllReadyH.cons rfl (fun K hK => ?_) AllReadyH.nil
          go_simp
          refine hK.out _ _ ?_ (fun hHeld => ?_)
          · (try dsimp only); go_keep
          clear hK K
          try simp only [Act.put, List.setIfInBounds_toArray, List.set_cons_zero, List.set_cons_succ]
          refine wpAnyH_ready (rs := [24]) (by kernel_rfl) (by simp) ?_
          refine AllReadyH.cons rfl (fun K hK => ?_) AllReadyH.nil
          go_simp
          refine hK.out _ _ ?_ (fun hHeld => ?_)
          · first | assumption | ((try dsimp only); go_keep)
          clear hK K
          try simp only [Act.put, List.setIfInBounds_toArray, List.set_cons_zero, List.set_cons_succ]
          refine wpAnyH_done (by kernel_rfl) ?_ _
          have FIN := Lib.hid (HFINL.out g0 c0 wa hB0 hg0' hza hbw)
          clear hcv
          go_wp2
          go_ret
          exact FIN.out (cv0 (cv0 wa)) _ _ ((cv0_below wa).trans ((cv0_below _).mono (Nat.le_of_lt (cv0_size wa))))
        exact AllReadyH.nil
      refine AllReadyH.cons rfl (fun K hK => ?_) ?_
      · go_simp
        refine hK.out _ _ ?_ (fun hHeld => ?_)
        · (try dsimp only); exact HK.out wa hza ⟨a14, a15, a16, a17, a18, a19, a20, a21⟩
        clear hK K
        try simp only [Act.put, List.setIfInBounds_toArray, List.set_cons_zero, List.set_cons_succ]
        refine wpAnyH_ready (rs := [12]) (by kernel_rfl) (by simp) ?_
        refine AllReadyH.cons rfl (fun K hK => ?_) ?_
        · go_simp
          refine hK.out _ _ ?_ (fun hHeld => ?_)
          · (try dsimp only); exact HK.out (cv0 wa) (Nat.lt_trans hza (cv0_size wa)) (HK.out wa hza ⟨a14, a15, a16, a17, a18, a19, a20, a21⟩)
          clear hK K
          try simp only [Act.put, List.setIfInBounds_toArray, List.set_cons_zero, List.set_cons_succ]
          refine wpAnyH_take (i := 22) (v := ?_) rfl (by kernel_rfl) (by kernel_rfl) (by kernel_rfl) (fun _ _ _ h => h) (Or.inl ⟨by rfl, ?_⟩) (by assumption) ?_
          rotate_left
          focus (intro w hSw; (try dsimp only at hSw); go_simp; try with_reducible rfl)
          try simp only [Act.put, List.setIfInBounds_toArray, List.set_cons_zero, List.set_cons_succ]
          refine wpAnyH_ready (rs := [23]) (by kernel_rfl) (by simp) ?_
          refine AllReadyH.cons rfl (fun K hK => ?_) AllReadyH.nil
          go_simp
          refine hK.out _ _ ?_ (fun hHeld => ?_)
          · (try dsimp only); go_keep
          clear hK K
          try simp only [Act.put, List.setIfInBounds_toArray, List.set_cons_zero, List.set_cons_succ]
          refine wpAnyH_ready (rs := [24]) (by kernel_rfl) (by simp) ?_
          refine AllReadyH.cons rfl (fun K hK => ?_) AllReadyH.nil
          go_simp
          refine hK.out _ _ ?_ (fun hHeld => ?_)
          · first | assumption | ((try dsimp only); go_keep)
          clear hK K
          try simp only [Act.put, List.setIfInBounds_toArray, List.set_cons_zero, List.set_cons_succ]
          refine wpAnyH_done (by kernel_rfl) ?_ _
          have FIN := Lib.hid (HFINL.out g0 c0 wa hB0 hg0' hza hbw)
          clear hcv
          go_wp2
          go_ret
          exact FIN.out (cv0 (cv0 wa)) _ _ ((cv0_below wa).trans ((cv0_below _).mono (Nat.le_of_lt (cv0_size wa))))
        exact AllReadyH.nil
      exact AllReadyH.nil
    refine AllReadyH.cons rfl (fun K hK => ?_) ?_
    · go_simp
      refine hK.out _ _ ?_ (fun hHeld => ?_)
      · (try dsimp only); exact HK1.out
      clear hK K
      try simp only [Act.put, List.setIfInBounds_toArray, List.set_cons_zero, List.set_cons_succ]
      refine wpAnyH_ready (rs := [5, 19]) (by kernel_rfl) (by simp) ?_
      refine AllReadyH.cons rfl (fun K hK => ?_) ?_
      · go_simp
        refine (S0.out _).mono ?_
        rintro e wa ⟨g0, c0, rfl, hB0, hg0, hg0', hba⟩
        have a14 := (hba.cell (p := ⟨w.heap.size, 14, none⟩) HZ1.out).trans HK1.out.1
        have a15 := (hba.cell (p := ⟨w.heap.size, 15, none⟩) HZ1.out).trans HK1.out.2.1
        have a16 := (hba.cell (p := ⟨w.heap.size, 16, none⟩) HZ1.out).trans HK1.out.2.2.1
        have a17 := (hba.cell (p := ⟨w.heap.size, 17, none⟩) HZ1.out).trans HK1.out.2.2.2.1
        have a18 := (hba.cell (p := ⟨w.heap.size, 18, none⟩) HZ1.out).trans HK1.out.2.2.2.2.1
        have a19 := (hba.cell (p := ⟨w.heap.size, 19, none⟩) HZ1.out).trans HK1.out.2.2.2.2.2.1
        have a20 := (hba.cell (p := ⟨w.heap.size, 20, none⟩) HZ1.out).trans HK1.out.2.2.2.2.2.2.1
        have a21 := (hba.cell (p := ⟨w.heap.size, 21, none⟩) HZ1.out).trans HK1.out.2.2.2.2.2.2.2
        have hza : w.heap.size < wa.heap.size := Nat.lt_of_lt_of_le HZ1.out hba.size
        have hbw : Below w.heap.size w wa := BB1.out.trans (hba.mono (Nat.le_of_lt HZ1.out))
        go_wp2_with fail
        refine hK.out _ _ ?_ (fun hHeld => ?_)
        · (try dsimp only); exact ⟨a14, a15, a16, a17, a18, a19, a20, a21⟩
        clear hK K
        try simp only [Act.put, List.setIfInBounds_toArray, List.set_cons_zero, List.set_cons_succ]
        refine wpAnyH_ready (rs := [19]) (by kernel_rfl) (by simp) ?_
        refine AllReadyH.cons rfl (fun K hK => ?_) ?_
        · go_simp
          refine hK.out _ _ ?_ (fun hHeld => ?_)
          · (try dsimp only); exact HK.out wa hza ⟨a14, a15, a16, a17, a18, a19, a20, a21⟩
          clear hK K
          try simp only [Act.put, List.setIfInBounds_toArray, List.set_cons_zero, List.set_cons_succ]
          refine wpAnyH_take (i := 22) (v := ?_) rfl (by kernel_rfl) (by kernel_rfl) (by kernel_rfl) (fun _ _ _ h => h) (Or.inl ⟨by rfl, ?_⟩) (by assumption) ?_
          rotate_left
          focus (intro w hSw; (try dsimp only at hSw); go_simp; try with_reducible rfl)
          try simp only [Act.put, List.setIfInBounds_toArray, List.set_cons_zero, List.set_cons_succ]
          refine wpAnyH_ready (rs := [23]) (by kernel_rfl) (by simp) ?_
          refine AllReadyH.cons rfl (fun K hK => ?_) AllReadyH.nil
          go_simp
          refine hK.out _ _ ?_ (fun hHeld => ?_)
          · (try dsimp only); go_keep
          clear hK K
          try simp only [Act.put, List.setIfInBounds_toArray, List.set_cons_zero, List.set_cons_succ]
          refine wpAnyH_ready (rs := [24]) (by kernel_rfl) (by simp) ?_
          refine AllReadyH.cons rfl (fun K hK => ?_) AllReadyH.nil
          go_simp
          refine hK.out _ _ ?_ (fun hHeld => ?_)
          · first | assumption | ((try dsimp only); go_keep)
          clear hK K
          try simp only [Act.put, List.setIfInBounds_toArray, List.set_cons_zero, List.set_cons_succ]
          refine wpAnyH_done (by kernel_rfl) ?_ _
          have FIN := Lib.hid (HFINL.out g0 c0 wa hB0 hg0' hza hbw)
          clear hcv
          go_wp2
          go_ret
          exact FIN.out (cv0 wa) _ _ (cv0_below wa)
        exact AllReadyH.nil
      refine AllReadyH.cons rfl (fun K hK => ?_) ?_
      · go_simp
        refine hK.out _ _ ?_ (fun hHeld => ?_)
        · (try dsimp only); exact HK2.out
        clear hK K
        try simp only [Act.put, List.setIfInBounds_toArray, List.set_cons_zero, List.set_cons_succ]
        refine wpAnyH_ready (rs := [5]) (by kernel_rfl) (by simp) ?_
        refine AllReadyH.cons rfl (fun K hK => ?_) ?_
        · go_simp
          refine (S0.out _).mono ?_
          rintro e wa ⟨g0, c0, rfl, hB0, hg0, hg0', hba⟩
          have a14 := (hba.cell (p := ⟨w.heap.size, 14, none⟩) HZ2.out).trans HK2.out.1
          have a15 := (hba.cell (p := ⟨w.heap.size, 15, none⟩) HZ2.out).trans HK2.out.2.1
          have a16 := (hba.cell (p := ⟨w.heap.size, 16, none⟩) HZ2.out).trans HK2.out.2.2.1
          have a17 := (hba.cell (p := ⟨w.heap.size, 17, none⟩) HZ2.out).trans HK2.out.2.2.2.1
          have a18 := (hba.cell (p := ⟨w.heap.size, 18, none⟩) HZ2.out).trans HK2.out.2.2.2.2.1
          have a19 := (hba.cell (p := ⟨w.heap.size, 19, none⟩) HZ2.out).trans HK2.out.2.2.2.2.2.1
          have a20 := (hba.cell (p := ⟨w.heap.size, 20, none⟩) HZ2.out).trans HK2.out.2.2.2.2.2.2.1
          have a21 := (hba.cell (p := ⟨w.heap.size, 21, none⟩) HZ2.out).trans HK2.out.2.2.2.2.2.2.2
          have hza : w.heap.size < wa.heap.size := Nat.lt_of_lt_of_le HZ2.out hba.size
          have hbw : Below w.heap.size w wa := BB2.out.trans (hba.mono (Nat.le_of_lt HZ2.out))
          go_wp2_with fail
          refine hK.out _ _ ?_ (fun hHeld => ?_)
          · (try dsimp only); exact ⟨a14, a15, a16, a17, a18, a19, a20, a21⟩
          clear hK K
          try simp only [Act.put, List.setIfInBounds_toArray, List.set_cons_zero, List.set_cons_succ]
          refine wpAnyH_take (i := 22) (v := ?_) rfl (by kernel_rfl) (by kernel_rfl) (by kernel_rfl) (fun _ _ _ h => h) (Or.inl ⟨by rfl, ?_⟩) (by assumption) ?_
          rotate_left
          focus (intro w hSw; (try dsimp only at hSw); go_simp; try with_reducible rfl)
          try simp only [Act.put, List.setIfInBounds_toArray, List.set_cons_zero, List.set_cons_succ]
          refine wpAnyH_ready (rs := [23]) (by kernel_rfl) (by simp) ?_
          refine AllReadyH.cons rfl (fun K hK => ?_) AllReadyH.nil
          go_simp
          refine hK.out _ _ ?_ (fun hHeld => ?_)
          · (try dsimp only); go_keep
          clear hK K
          try simp only [Act.put, List.setIfInBounds_toArray, List.set_cons_zero, List.set_cons_succ]
          refine wpAnyH_ready (rs := [24]) (by kernel_rfl) (by simp) ?_
          refine AllReadyH.cons rfl (fun K hK => ?_) AllReadyH.nil
          go_simp
          refine hK.out _ _ ?_ (fun hHeld => ?_)
          · first | assumption | ((try dsimp only); go_keep)
          clear hK K
          try simp only [Act.put, List.setIfInBounds_toArray, List.set_cons_zero, List.set_cons_succ]
          refine wpAnyH_done (by kernel_rfl) ?_ _
          have FIN := Lib.hid (HFINL.out g0 c0 wa hB0 hg0' hza hbw)
          clear hcv
          go_wp2
          go_ret
          exact FIN.out wa _ _ (Below.refl _ _)
        exact AllReadyH.nil
      exact AllReadyH.nil
    refine AllReadyH.cons rfl (fun K hK => ?_) ?_
    · go_simp
      refine hK.out _ _ ?_ (fun hHeld => ?_)
      · (try dsimp only); exact HK1.out
      clear hK K
      try simp only [Act.put, List.setIfInBounds_toArray, List.set_cons_zero, List.set_cons_succ]
      refine wpAnyH_ready (rs := [5, 12]) (by kernel_rfl) (by simp) ?_
      refine AllReadyH.cons rfl (fun K hK => ?_) ?_
      · go_simp
        refine (S0.out _).mono ?_
        rintro e wa ⟨g0, c0, rfl, hB0, hg0, hg0', hba⟩
        have a14 := (hba.cell (p := ⟨w.heap.size, 14, none⟩) HZ1.out).trans HK1.out.1
        have a15 := (hba.cell (p := ⟨w.heap.size, 15, none⟩) HZ1.out).trans HK1.out.2.1
        have a16 := (hba.cell (p := ⟨w.heap.size, 16, none⟩) HZ1.out).trans HK1.out.2.2.1
        have a17 := (hba.cell (p := ⟨w.heap.size, 17, none⟩) HZ1.out).trans HK1.out.2.2.2.1
        have a18 := (hba.cell (p := ⟨w.heap.size, 18, none⟩) HZ1.out).trans HK1.out.2.2.2.2.1
        have a19 := (hba.cell (p := ⟨w.heap.size, 19, none⟩) HZ1.out).trans HK1.out.2.2.2.2.2.1
        have a20 := (hba.cell (p := ⟨w.heap.size, 20, none⟩) HZ1.out).trans HK1.out.2.2.2.2.2.2.1
        have a21 := (hba.cell (p := ⟨w.heap.size, 21, none⟩) HZ1.out).trans HK1.out.2.2.2.2.2.2.2
        have hza : w.heap.size < wa.heap.size := Nat.lt_of_lt_of_le HZ1.out hba.size
        have hbw : Below w.heap.size w wa := BB1.out.trans (hba.mono (Nat.le_of_lt HZ1.out))
        go_wp2_with fail
        refine hK.out _ _ ?_ (fun hHeld => ?_)
        · (try dsimp only); exact ⟨a14, a15, a16, a17, a18, a19, a20, a21⟩
        clear hK K
        try simp only [Act.put, List.setIfInBounds_toArray, List.set_cons_zero, List.set_cons_succ]
        refine wpAnyH_ready (rs := [12]) (by kernel_rfl) (by simp) ?_
        refine AllReadyH.cons rfl (fun K hK => ?_) ?_
        · go_simp
          refine hK.out _ _ ?_ (fun hHeld => ?_)
          · (try dsimp only); exact HK.out wa hza ⟨a14, a15, a16, a17, a18, a19, a20, a21⟩
          clear hK K
          try simp only [Act.put, List.setIfInBounds_toArray, List.set_cons_zero, List.set_cons_succ]
          refine wpAnyH_take (i := 22) (v := ?_) rfl (by kernel_rfl) (by kernel_rfl) (by kernel_rfl) (fun _ _ _ h => h) (Or.inl ⟨by rfl, ?_⟩) (by assumption) ?_
          rotate_left
          focus (intro w hSw; (try dsimp only at hSw); go_simp; try with_reducible rfl)
          try simp only [Act.put, List.setIfInBounds_toArray, List.set_cons_zero, List.set_cons_succ]
          refine wpAnyH_ready (rs := [23]) (by kernel_rfl) (by simp) ?_
          refine AllReadyH.cons rfl (fun K hK => ?_) AllReadyH.nil
          go_simp
          refine hK.out _ _ ?_ (fun hHeld => ?_)
          · (try dsimp only); go_keep
          clear hK K
          try simp only [Act.put, List.setIfInBounds_toArray, List.set_cons_zero, List.set_cons_succ]
          refine wpAnyH_ready (rs := [24]) (by kernel_rfl) (by simp) ?_
          refine AllReadyH.cons rfl (fun K hK => ?_) AllReadyH.nil
          go_simp
          refine hK.out _ _ ?_ (fun hHeld => ?_)
          · first | assumption | ((try dsimp only); go_keep)
          clear hK K
          try simp only [Act.put, List.setIfInBounds_toArray, List.set_cons_zero, List.set_cons_succ]
          refine wpAnyH_done (by kernel_rfl) ?_ _
          have FIN := Lib.hid (HFINL.out g0 c0 wa hB0 hg0' hza hbw)
          clear hcv
          go_wp2
          go_ret
          exact FIN.out (cv0 wa) _ _ (cv0_below wa)
        exact AllReadyH.nil
      refine AllReadyH.cons rfl (fun K hK => ?_) ?_
      · go_simp
        refine hK.out _ _ ?_ (fun hHeld => ?_)
        · (try dsimp only); exact HK2.out
        clear hK K
        try simp only [Act.put, List.setIfInBounds_toArray, List.set_cons_zero, List.set_cons_succ]
        refine wpAnyH_ready (rs := [5]) (by kernel_rfl) (by simp) ?_
        refine AllReadyH.cons rfl (fun K hK => ?_) ?_
        · go_simp
          refine (S0.out _).mono ?_
          rintro e wa ⟨g0, c0, rfl, hB0, hg0, hg0', hba⟩
          have a14 := (hba.cell (p := ⟨w.heap.size, 14, none⟩) HZ2.out).trans HK2.out.1
          have a15 := (hba.cell (p := ⟨w.heap.size, 15, none⟩) HZ2.out).trans HK2.out.2.1
          have a16 := (hba.cell (p := ⟨w.heap.size, 16, none⟩) HZ2.out).trans HK2.out.2.2.1
          have a17 := (hba.cell (p := ⟨w.heap.size, 17, none⟩) HZ2.out).trans HK2.out.2.2.2.1
          have a18 := (hba.cell (p := ⟨w.heap.size, 18, none⟩) HZ2.out).trans HK2.out.2.2.2.2.1
          have a19 := (hba.cell (p := ⟨w.heap.size, 19, none⟩) HZ2.out).trans HK2.out.2.2.2.2.2.1
          have a20 := (hba.cell (p := ⟨w.heap.size, 20, none⟩) HZ2.out).trans HK2.out.2.2.2.2.2.2.1
          have a21 := (hba.cell (p := ⟨w.heap.size, 21, none⟩) HZ2.out).trans HK2.out.2.2.2.2.2.2.2
          have hza : w.heap.size < wa.heap.size := Nat.lt_of_lt_of_le HZ2.out hba.size
          have hbw : Below w.heap.size w wa := BB2.out.trans (hba.mono (Nat.le_of_lt HZ2.out))
          go_wp2_with fail
          refine hK.out _ _ ?_ (fun hHeld => ?_)
          · (try dsimp only); exact ⟨a14, a15, a16, a17, a18, a19, a20, a21⟩
          clear hK K
          try simp only [Act.put, List.setIfInBounds_toArray, List.set_cons_zero, List.set_cons_succ]
          refine wpAnyH_take (i := 22) (v := ?_) rfl (by kernel_rfl) (by kernel_rfl) (by kernel_rfl) (fun _ _ _ h => h) (Or.inl ⟨by rfl, ?_⟩) (by assumption) ?_
          rotate_left
          focus (intro w hSw; (try dsimp only at hSw); go_simp; try with_reducible rfl)
          try simp only [Act.put, List.setIfInBounds_toArray, List.set_cons_zero, List.set_cons_succ]
          refine wpAnyH_ready (rs := [23]) (by kernel_rfl) (by simp) ?_
          refine AllReadyH.cons rfl (fun K hK => ?_) AllReadyH.nil
          go_simp
          refine hK.out _ _ ?_ (fun hHeld => ?_)
          · (try dsimp only); go_keep
          clear hK K
          try simp only [Act.put, List.setIfInBounds_toArray, List.set_cons_zero, List.set_cons_succ]
          refine wpAnyH_ready (rs := [24]) (by kernel_rfl) (by simp) ?_
          refine AllReadyH.cons rfl (fun K hK => ?_) AllReadyH.nil
          go_simp
          refine hK.out _ _ ?_ (fun hHeld => ?_)
          · first | assumption | ((try dsimp only); go_keep)
          clear hK K
          try simp only [Act.put, List.setIfInBounds_toArray, List.set_cons_zero, List.set_cons_succ]
          refine wpAnyH_done (by kernel_rfl) ?_ _
          have FIN := Lib.hid (HFINL.out g0 c0 wa hB0 hg0' hza hbw)
          clear hcv
          go_wp2
          go_ret
          exact FIN.out wa _ _ (Below.refl _ _)
        exact AllReadyH.nil
      exact AllReadyH.nil
    exact AllReadyH.nil
  refine AllReadyH.cons rfl (fun K hK => ?_) ?_
  · go_simp
    refine hK.out _ _ ?_ (fun hHeld => ?_)
    · (try dsimp only); exact HK1.out
    clear hK K
    try simp only [Act.put, List.setIfInBounds_toArray, List.set_cons_zero, List.set_cons_succ]
    refine wpAnyH_ready (rs := [2, 19]) (by kernel_rfl) (by simp) ?_
    refine AllReadyH.cons rfl (fun K hK => ?_) ?_
    · go_simp
      refine (psk2 _).mono ?_
      rintro e w' ⟨rfl, rfl⟩
      go_wp2_with fail
      refine hK.out _ _ ?_ (fun hHeld => ?_)
      · (try dsimp only); exact HK1.out
      clear hK K
      try simp only [Act.put, List.setIfInBounds_toArray, List.set_cons_zero, List.set_cons_succ]
      refine wpAnyH_ready (rs := [5, 19]) (by kernel_rfl) (by simp) ?_
      refine AllReadyH.cons rfl (fun K hK => ?_) ?_
      · go_simp
        refine (S0.out _).mono ?_
        rintro e wa ⟨g0, c0, rfl, hB0, hg0, hg0', hba⟩
        have a14 := (hba.cell (p := ⟨w.heap.size, 14, none⟩) HZ1.out).trans HK1.out.1
        have a15 := (hba.cell (p := ⟨w.heap.size, 15, none⟩) HZ1.out).trans HK1.out.2.1
        have a16 := (hba.cell (p := ⟨w.heap.size, 16, none⟩) HZ1.out).trans HK1.out.2.2.1
        have a17 := (hba.cell (p := ⟨w.heap.size, 17, none⟩) HZ1.out).trans HK1.out.2.2.2.1
        have a18 := (hba.cell (p := ⟨w.heap.size, 18, none⟩) HZ1.out).trans HK1.out.2.2.2.2.1
        have a19 := (hba.cell (p := ⟨w.heap.size, 19, none⟩) HZ1.out).trans HK1.out.2.2.2.2.2.1
        have a20 := (hba.cell (p := ⟨w.heap.size, 20, none⟩) HZ1.out).trans HK1.out.2.2.2.2.2.2.1
        have a21 := (hba.cell (p := ⟨w.heap.size, 21, none⟩) HZ1.out).trans HK1.out.2.2.2.2.2.2.2
        have hza : w.heap.size < wa.heap.size := Nat.lt_of_lt_of_le HZ1.out hba.size
        have hbw : Below w.heap.size w wa := BB1.out.trans (hba.mono (Nat.le_of_lt HZ1.out))
        go_wp2_with fail
        refine hK.out _ _ ?_ (fun hHeld => ?_)
        · (try dsimp only); exact ⟨a14, a15, a16, a17, a18, a19, a20, a21⟩
        clear hK K
        try simp only [Act.put, List.setIfInBounds_toArray, List.set_cons_zero, List.set_cons_succ]
        refine wpAnyH_ready (rs := [19]) (by kernel_rfl) (by simp) ?_
        refine AllReadyH.cons rfl (fun K hK => ?_) ?_
        · go_simp
          refine hK.out _ _ ?_ (fun hHeld => ?_)
          · (try dsimp only); exact HK.out wa hza ⟨a14, a15, a16, a17, a18, a19, a20, a21⟩
          clear hK K
          try simp only [Act.put, List.setIfInBounds_toArray, List.set_cons_zero, List.set_cons_succ]
          refine wpAnyH_take (i := 22) (v := ?_) rfl (by kernel_rfl) (by kernel_rfl) (by kernel_rfl) (fun _ _ _ h => h) (Or.inl ⟨by rfl, ?_⟩) (by assumption) ?_
          rotate_left
          focus (intro w hSw; (try dsimp only at hSw); go_simp; try with_reducible rfl)
          try simp only [Act.put, List.setIfInBounds_toArray, List.set_cons_zero, List.set_cons_succ]
          refine wpAnyH_ready (rs := [23]) (by kernel_rfl) (by simp) ?_
          refine AllReadyH.cons rfl (fun K hK => ?_) AllReadyH.nil
          go_simp
          refine hK.out _ _ ?_ (fun hHeld => ?_)
          · (try dsimp only); go_keep
          clear hK K
          try simp only [Act.put, List.setIfInBounds_toArray, List.set_cons_zero, List.set_cons_succ]
          refine wpAnyH_ready (rs := [24]) (by kernel_rfl) (by simp) ?_
          refine AllReadyH.cons rfl (fun K hK => ?_) AllReadyH.nil
          go_simp
          refine hK.out _ _ ?_ (fun hHeld => ?_)
          · first | assumption | ((try dsimp only); go_keep)
          clear hK K
          try simp only [Act.put, List.setIfInBounds_toArray, List.set_cons_zero, List.set_cons_succ]
          refine wpAnyH_done (by kernel_rfl) ?_ _
          have FIN := Lib.hid (HFINL.out g0 c0 wa hB0 hg0' hza hbw)
          clear hcv
          go_wp2
          go_ret
          exact FIN.out (cv0 wa) _ _ (cv0_below wa)
        exact AllReadyH.nil
      refine AllReadyH.cons rfl (fun K hK => ?_) ?_
      · go_simp
        refine hK.out _ _ ?_ (fun hHeld => ?_)
        · (try dsimp only); exact HK2.out
        clear hK K
        try simp only [Act.put, List.setIfInBounds_toArray, List.set_cons_zero, List.set_cons_succ]
        refine wpAnyH_ready (rs := [5]) (by kernel_rfl) (by simp) ?_
        refine AllReadyH.cons rfl (fun K hK => ?_) ?_
        · go_simp
          refine (S0.out _).mono ?_
          rintro e wa ⟨g0, c0, rfl, hB0, hg0, hg0', hba⟩
          have a14 := (hba.cell (p := ⟨w.heap.size, 14, none⟩) HZ2.out).trans HK2.out.1
          have a15 := (hba.cell (p := ⟨w.heap.size, 15, none⟩) HZ2.out).trans HK2.out.2.1
          have a16 := (hba.cell (p := ⟨w.heap.size, 16, none⟩) HZ2.out).trans HK2.out.2.2.1
          have a17 := (hba.cell (p := ⟨w.heap.size, 17, none⟩) HZ2.out).trans HK2.out.2.2.2.1
          have a18 := (hba.cell (p := ⟨w.heap.size, 18, none⟩) HZ2.out).trans HK2.out.2.2.2.2.1
          have a19 := (hba.cell (p := ⟨w.heap.size, 19, none⟩) HZ2.out).trans HK2.out.2.2.2.2.2.1
          have a20 := (hba.cell (p := ⟨w.heap.size, 20, none⟩) HZ2.out).trans HK2.out.2.2.2.2.2.2.1
          have a21 := (hba.cell (p := ⟨w.heap.size, 21, none⟩) HZ2.out).trans HK2.out.2.2.2.2.2.2.2
          have hza : w.heap.size < wa.heap.size := Nat.lt_of_lt_of_le HZ2.out hba.size
          have hbw : Below w.heap.size w wa := BB2.out.trans (hba.mono (Nat.le_of_lt HZ2.out))
          go_wp2_with fail
          refine hK.out _ _ ?_ (fun hHeld => ?_)
          · (try dsimp only); exact ⟨a14, a15, a16, a17, a18, a19, a20, a21⟩
          clear hK K
          try simp only [Act.put, List.setIfInBounds_toArray, List.set_cons_zero, List.set_cons_succ]
          refine wpAnyH_take (i := 22) (v := ?_) rfl (by kernel_rfl) (by kernel_rfl) (by kernel_rfl) (fun _ _ _ h => h) (Or.inl ⟨by rfl, ?_⟩) (by assumption) ?_
          rotate_left
          focus (intro w hSw; (try dsimp only at hSw); go_simp; try with_reducible rfl)
          try simp only [Act.put, List.setIfInBounds_toArray, List.set_cons_zero, List.set_cons_succ]
          refine wpAnyH_ready (rs := [23]) (by kernel_rfl) (by simp) ?_
          refine AllReadyH.cons rfl (fun K hK => ?_) AllReadyH.nil
          go_simp
          refine hK.out _ _ ?_ (fun hHeld => ?_)
          · (try dsimp only); go_keep
          clear hK K
          try simp only [Act.put, List.setIfInBounds_toArray, List.set_cons_zero, List.set_cons_succ]
          refine wpAnyH_ready (rs := [24]) (by kernel_rfl) (by simp) ?_
          refine AllReadyH.cons rfl (fun K hK => ?_) AllReadyH.nil
          go_simp
          refine hK.out _ _ ?_ (fun hHeld => ?_)
          · first | assumption | ((try dsimp only); go_keep)
          clear hK K
          try simp only [Act.put, List.setIfInBounds_toArray, List.set_cons_zero, List.set_cons_succ]
          refine wpAnyH_done (by kernel_rfl) ?_ _
          have FIN := Lib.hid (HFINL.out g0 c0 wa hB0 hg0' hza hbw)
          clear hcv
          go_wp2
          go_ret
          exact FIN.out wa _ _ (Below.refl _ _)
        exact AllReadyH.nil
      exact AllReadyH.nil
    refine AllReadyH.cons rfl (fun K hK => ?_) ?_
    · go_simp
      refine hK.out _ _ ?_ (fun hHeld => ?_)
      · (try dsimp only); exact HK2.out
      clear hK K
      try simp only [Act.put, List.setIfInBounds_toArray, List.set_cons_zero, List.set_cons_succ]
      refine wpAnyH_ready (rs := [2]) (by kernel_rfl) (by simp) ?_
      refine AllReadyH.cons rfl (fun K hK => ?_) ?_
      · go_simp
        refine (psk2 _).mono ?_
        rintro e w' ⟨rfl, rfl⟩
        go_wp2_with fail
        refine hK.out _ _ ?_ (fun hHeld => ?_)
        · (try dsimp only); exact HK2.out
        clear hK K
        try simp only [Act.put, List.setIfInBounds_toArray, List.set_cons_zero, List.set_cons_succ]
        refine wpAnyH_ready (rs := [5]) (by kernel_rfl) (by simp) ?_
        refine AllReadyH.cons rfl (fun K hK => ?_) ?_
        · go_simp
          refine (S0.out _).mono ?_
          rintro e wa ⟨g0, c0, rfl, hB0, hg0, hg0', hba⟩
          have a14 := (hba.cell (p := ⟨w.heap.size, 14, none⟩) HZ2.out).trans HK2.out.1
          have a15 := (hba.cell (p := ⟨w.heap.size, 15, none⟩) HZ2.out).trans HK2.out.2.1
          have a16 := (hba.cell (p := ⟨w.heap.size, 16, none⟩) HZ2.out).trans HK2.out.2.2.1
          have a17 := (hba.cell (p := ⟨w.heap.size, 17, none⟩) HZ2.out).trans HK2.out.2.2.2.1
          have a18 := (hba.cell (p := ⟨w.heap.size, 18, none⟩) HZ2.out).trans HK2.out.2.2.2.2.1
          have a19 := (hba.cell (p := ⟨w.heap.size, 19, none⟩) HZ2.out).trans HK2.out.2.2.2.2.2.1
          have a20 := (hba.cell (p := ⟨w.heap.size, 20, none⟩) HZ2.out).trans HK2.out.2.2.2.2.2.2.1
          have a21 := (hba.cell (p := ⟨w.heap.size, 21, none⟩) HZ2.out).trans HK2.out.2.2.2.2.2.2.2
          have hza : w.heap.size < wa.heap.size := Nat.lt_of_lt_of_le HZ2.out hba.size
          have hbw : Below w.heap.size w wa := BB2.out.trans (hba.mono (Nat.le_of_lt HZ2.out))
          go_wp2_with fail
          refine hK.out _ _ ?_ (fun hHeld => ?_)
          · (try dsimp only); exact ⟨a14, a15, a16, a17, a18, a19, a20, a21⟩
          clear hK K
          try simp only [Act.put, List.setIfInBounds_toArray, List.set_cons_zero, List.set_cons_succ]
          refine wpAnyH_take (i := 22) (v := ?_) rfl (by kernel_rfl) (by kernel_rfl) (by kernel_rfl) (fun _ _ _ h => h) (Or.inl ⟨by rfl, ?_⟩) (by assumption) ?_
          rotate_left
          focus (intro w hSw; (try dsimp only at hSw); go_simp; try with_reducible rfl)
          try simp only [Act.put, List.setIfInBounds_toArray, List.set_cons_zero, List.set_cons_succ]
          refine wpAnyH_ready (rs := [23]) (by kernel_rfl) (by simp) ?_
          refine AllReadyH.cons rfl (fun K hK => ?_) AllReadyH.nil
          go_simp
          refine hK.out _ _ ?_ (fun hHeld => ?_)
          · (try dsimp only); go_keep
          clear hK K
          try simp only [Act.put, List.setIfInBounds_toArray, List.set_cons_zero, List.set_cons_succ]
          refine wpAnyH_ready (rs := [24]) (by kernel_rfl) (by simp) ?_
          refine AllReadyH.cons rfl (fun K hK => ?_) AllReadyH.nil
          go_simp
          refine hK.out _ _ ?_ (fun hHeld => ?_)
          · first | assumption | ((try dsimp only); go_keep)
          clear hK K
          try simp only [Act.put, List.setIfInBounds_toArray, List.set_cons_zero, List.set_cons_succ]
          refine wpAnyH_done (by kernel_rfl) ?_ _
          have FIN := Lib.hid (HFINL.out g0 c0 wa hB0 hg0' hza hbw)
          clear hcv
          go_wp2
          go_ret
          exact FIN.out wa _ _ (Below.refl _ _)
        exact AllReadyH.nil
      exact AllReadyH.nil
    exact AllReadyH.nil
  refine AllReadyH.cons rfl (fun K hK => ?_) ?_
  · go_simp
    refine hK.out _ _ ?_ (fun hHeld => ?_)
    · (try dsimp only); exact HK1.out
    clear hK K
    try simp only [Act.put, List.setIfInBounds_toArray, List.set_cons_zero, List.set_cons_succ]
    refine wpAnyH_ready (rs := [2, 12]) (by kernel_rfl) (by simp) ?_
    refine AllReadyH.cons rfl (fun K hK => ?_) ?_
    · go_simp
      refine (psk2 _).mono ?_
      rintro e w' ⟨rfl, rfl⟩
      go_wp2_with fail
      refine hK.out _ _ ?_ (fun hHeld => ?_)
      · (try dsimp only); exact HK1.out
      clear hK K
      try simp only [Act.put, List.setIfInBounds_toArray, List.set_cons_zero, List.set_cons_succ]
      refine wpAnyH_ready (rs := [5, 12]) (by kernel_rfl) (by simp) ?_
      refine AllReadyH.cons rfl (fun K hK => ?_) ?_
      · go_simp
        refine (S0.out _).mono ?_
        rintro e wa ⟨g0, c0, rfl, hB0, hg0, hg0', hba⟩
        have a14 := (hba.cell (p := ⟨w.heap.size, 14, none⟩) HZ1.out).trans HK1.out.1
        have a15 := (hba.cell (p := ⟨w.heap.size, 15, none⟩) HZ1.out).trans HK1.out.2.1
        have a16 := (hba.cell (p := ⟨w.heap.size, 16, none⟩) HZ1.out).trans HK1.out.2.2.1
        have a17 := (hba.cell (p := ⟨w.heap.size, 17, none⟩) HZ1.out).trans HK1.out.2.2.2.1
        have a18 := (hba.cell (p := ⟨w.heap.size, 18, none⟩) HZ1.out).trans HK1.out.2.2.2.2.1
        have a19 := (hba.cell (p := ⟨w.heap.size, 19, none⟩) HZ1.out).trans HK1.out.2.2.2.2.2.1
        have a20 := (hba.cell (p := ⟨w.heap.size, 20, none⟩) HZ1.out).trans HK1.out.2.2.2.2.2.2.1
        have a21 := (hba.cell (p := ⟨w.heap.size, 21, none⟩) HZ1.out).trans HK1.out.2.2.2.2.2.2.2
        have hza : w.heap.size < wa.heap.size := Nat.lt_of_lt_of_le HZ1.out hba.size
        have hbw : Below w.heap.size w wa := BB1.out.trans (hba.mono (Nat.le_of_lt HZ1.out))
        go_wp2_with fail
        refine hK.out _ _ ?_ (fun hHeld => ?_)
        · (try dsimp only); exact ⟨a14, a15, a16, a17, a18, a19, a20, a21⟩
        clear hK K
        try simp only [Act.put, List.setIfInBounds_toArray, List.set_cons_zero, List.set_cons_succ]
        refine wpAnyH_ready (rs := [12]) (by kernel_rfl) (by simp) ?_
        refine AllReadyH.cons rfl (fun K hK => ?_) ?_
        · go_simp
          refine hK.out _ _ ?_ (fun hHeld => ?_)
          · (try dsimp only); exact HK.out wa hza ⟨a14, a15, a16, a17, a18, a19, a20, a21⟩
          clear hK K
          try simp only [Act.put, List.setIfInBounds_toArray, List.set_cons_zero, List.set_cons_succ]
          refine wpAnyH_take (i := 22) (v := ?_) rfl (by kernel_rfl) (by kernel_rfl) (by kernel_rfl) (fun _ _ _ h => h) (Or.inl ⟨by rfl, ?_⟩) (by assumption) ?_
          rotate_left
          focus (intro w hSw; (try dsimp only at hSw); go_simp; try with_reducible rfl)
          try simp only [Act.put, List.setIfInBounds_toArray, List.set_cons_zero, List.set_cons_succ]
          refine wpAnyH_ready (rs := [23]) (by kernel_rfl) (by simp) ?_
          refine AllReadyH.cons rfl (fun K hK => ?_) AllReadyH.nil
          go_simp
          refine hK.out _ _ ?_ (fun hHeld => ?_)
          · (try dsimp only); go_keep
          clear hK K
          try simp only [Act.put, List.setIfInBounds_toArray, List.set_cons_zero, List.set_cons_succ]
          refine wpAnyH_ready (rs := [24]) (by kernel_rfl) (by simp) ?_
          refine AllReadyH.cons rfl (fun K hK => ?_) AllReadyH.nil
          go_simp
          refine hK.out _ _ ?_ (fun hHeld => ?_)
          · first | assumption | ((try dsimp only); go_keep)
          clear hK K
          try simp only [Act.put, List.setIfInBounds_toArray, List.set_cons_zero, List.set_cons_succ]
          refine wpAnyH_done (by kernel_rfl) ?_ _
          have FIN := Lib.hid (HFINL.out g0 c0 wa hB0 hg0' hza hbw)
          clear hcv
          go_wp2
          go_ret
          exact FIN.out (cv0 wa) _ _ (cv0_below wa)
        exact AllReadyH.nil
      refine AllReadyH.cons rfl (fun K hK => ?_) ?_
      · go_simp
        refine hK.out _ _ ?_ (fun hHeld => ?_)
        · (try dsimp only); exact HK2.out
        clear hK K
        try simp only [Act.put, List.setIfInBounds_toArray, List.set_cons_zero, List.set_cons_succ]
        refine wpAnyH_ready (rs := [5]) (by kernel_rfl) (by simp) ?_
        refine AllReadyH.cons rfl (fun K hK => ?_) ?_
        · go_simp
          refine (S0.out _).mono ?_
          rintro e wa ⟨g0, c0, rfl, hB0, hg0, hg0', hba⟩
          have a14 := (hba.cell (p := ⟨w.heap.size, 14, none⟩) HZ2.out).trans HK2.out.1
          have a15 := (hba.cell (p := ⟨w.heap.size, 15, none⟩) HZ2.out).trans HK2.out.2.1
          have a16 := (hba.cell (p := ⟨w.heap.size, 16, none⟩) HZ2.out).trans HK2.out.2.2.1
          have a17 := (hba.cell (p := ⟨w.heap.size, 17, none⟩) HZ2.out).trans HK2.out.2.2.2.1
          have a18 := (hba.cell (p := ⟨w.heap.size, 18, none⟩) HZ2.out).trans HK2.out.2.2.2.2.1
          have a19 := (hba.cell (p := ⟨w.heap.size, 19, none⟩) HZ2.out).trans HK2.out.2.2.2.2.2.1
          have a20 := (hba.cell (p := ⟨w.heap.size, 20, none⟩) HZ2.out).trans HK2.out.2.2.2.2.2.2.1
          have a21 := (hba.cell (p := ⟨w.heap.size, 21, none⟩) HZ2.out).trans HK2.out.2.2.2.2.2.2.2
          have hza : w.heap.size < wa.heap.size := Nat.lt_of_lt_of_le HZ2.out hba.size
          have hbw : Below w.heap.size w wa := BB2.out.trans (hba.mono (Nat.le_of_lt HZ2.out))
          go_wp2_with fail
          refine hK.out _ _ ?_ (fun hHeld => ?_)
          · (try dsimp only); exact ⟨a14, a15, a16, a17, a18, a19, a20, a21⟩
          clear hK K
          try simp only [Act.put, List.setIfInBounds_toArray, List.set_cons_zero, List.set_cons_succ]
          refine wpAnyH_take (i := 22) (v := ?_) rfl (by kernel_rfl) (by kernel_rfl) (by kernel_rfl) (fun _ _ _ h => h) (Or.inl ⟨by rfl, ?_⟩) (by assumption) ?_
          rotate_left
          focus (intro w hSw; (try dsimp only at hSw); go_simp; try with_reducible rfl)
          try simp only [Act.put, List.setIfInBounds_toArray, List.set_cons_zero, List.set_cons_succ]
          refine wpAnyH_ready (rs := [23]) (by kernel_rfl) (by simp) ?_
          refine AllReadyH.cons rfl (fun K hK => ?_) AllReadyH.nil
          go_simp
          refine hK.out _ _ ?_ (fun hHeld => ?_)
          · (try dsimp only); go_keep
          clear hK K
          try simp only [Act.put, List.setIfInBounds_toArray, List.set_cons_zero, List.set_cons_succ]
          refine wpAnyH_ready (rs := [24]) (by kernel_rfl) (by simp) ?_
          refine AllReadyH.cons rfl (fun K hK => ?_) AllReadyH.nil
          go_simp
          refine hK.out _ _ ?_ (fun hHeld => ?_)
          · first | assumption | ((try dsimp only); go_keep)
          clear hK K
          try simp only [Act.put, List.setIfInBounds_toArray, List.set_cons_zero, List.set_cons_succ]
          refine wpAnyH_done (by kernel_rfl) ?_ _
          have FIN := Lib.hid (HFINL.out g0 c0 wa hB0 hg0' hza hbw)
          clear hcv
          go_wp2
          go_ret
          exact FIN.out wa _ _ (Below.refl _ _)
        exact AllReadyH.nil
      exact AllReadyH.nil
    refine AllReadyH.cons rfl (fun K hK => ?_) ?_
    · go_simp
      refine hK.out _ _ ?_ (fun hHeld => ?_)
      · (try dsimp only); exact HK2.out
      clear hK K
      try simp only [Act.put, List.setIfInBounds_toArray, List.set_cons_zero, List.set_cons_succ]
      refine wpAnyH_ready (rs := [2]) (by kernel_rfl) (by simp) ?_
      refine AllReadyH.cons rfl (fun K hK => ?_) ?_
      · go_simp
        refine (psk2 _).mono ?_
        rintro e w' ⟨rfl, rfl⟩
        go_wp2_with fail
        refine hK.out _ _ ?_ (fun hHeld => ?_)
        · (try dsimp only); exact HK2.out
        clear hK K
        try simp only [Act.put, List.setIfInBounds_toArray, List.set_cons_zero, List.set_cons_succ]
        refine wpAnyH_ready (rs := [5]) (by kernel_rfl) (by simp) ?_
        refine AllReadyH.cons rfl (fun K hK => ?_) ?_
        · go_simp
          refine (S0.out _).mono ?_
          rintro e wa ⟨g0, c0, rfl, hB0, hg0, hg0', hba⟩
          have a14 := (hba.cell (p := ⟨w.heap.size, 14, none⟩) HZ2.out).trans HK2.out.1
          have a15 := (hba.cell (p := ⟨w.heap.size, 15, none⟩) HZ2.out).trans HK2.out.2.1
          have a16 := (hba.cell (p := ⟨w.heap.size, 16, none⟩) HZ2.out).trans HK2.out.2.2.1
          have a17 := (hba.cell (p := ⟨w.heap.size, 17, none⟩) HZ2.out).trans HK2.out.2.2.2.1
          have a18 := (hba.cell (p := ⟨w.heap.size, 18, none⟩) HZ2.out).trans HK2.out.2.2.2.2.1
          have a19 := (hba.cell (p := ⟨w.heap.size, 19, none⟩) HZ2.out).trans HK2.out.2.2.2.2.2.1
          have a20 := (hba.cell (p := ⟨w.heap.size, 20, none⟩) HZ2.out).trans HK2.out.2.2.2.2.2.2.1
          have a21 := (hba.cell (p := ⟨w.heap.size, 21, none⟩) HZ2.out).trans HK2.out.2.2.2.2.2.2.2
          have hza : w.heap.size < wa.heap.size := Nat.lt_of_lt_of_le HZ2.out hba.size
          have hbw : Below w.heap.size w wa := BB2.out.trans (hba.mono (Nat.le_of_lt HZ2.out))
          go_wp2_with fail
          refine hK.out _ _ ?_ (fun hHeld => ?_)
          · (try dsimp only); exact ⟨a14, a15, a16, a17, a18, a19, a20, a21⟩
          clear hK K
          try simp only [Act.put, List.setIfInBounds_toArray, List.set_cons_zero, List.set_cons_succ]
          refine wpAnyH_take (i := 22) (v := ?_) rfl (by kernel_rfl) (by kernel_rfl) (by kernel_rfl) (fun _ _ _ h => h) (Or.inl ⟨by rfl, ?_⟩) (by assumption) ?_
          rotate_left
          focus (intro w hSw; (try dsimp only at hSw); go_simp; try with_reducible rfl)
          try simp only [Act.put, List.setIfInBounds_toArray, List.set_cons_zero, List.set_cons_succ]
          refine wpAnyH_ready (rs := [23]) (by kernel_rfl) (by simp) ?_
          refine AllReadyH.cons rfl (fun K hK => ?_) AllReadyH.nil
          go_simp
          refine hK.out _ _ ?_ (fun hHeld => ?_)
          · (try dsimp only); go_keep
          clear hK K
          try simp only [Act.put, List.setIfInBounds_toArray, List.set_cons_zero, List.set_cons_succ]
          refine wpAnyH_ready (rs := [24]) (by kernel_rfl) (by simp) ?_
          refine AllReadyH.cons rfl (fun K hK => ?_) AllReadyH.nil
          go_simp
          refine hK.out _ _ ?_ (fun hHeld => ?_)
          · first | assumption | ((try dsimp only); go_keep)
          clear hK K
          try simp only [Act.put, List.setIfInBounds_toArray, List.set_cons_zero, List.set_cons_succ]
          refine wpAnyH_done (by kernel_rfl) ?_ _
          have FIN := Lib.hid (HFINL.out g0 c0 wa hB0 hg0' hza hbw)
          clear hcv
          go_wp2
          go_ret
          exact FIN.out wa _ _ (Below.refl _ _)
        exact AllReadyH.nil
      exact AllReadyH.nil
    exact AllReadyH.nil
  exact AllReadyH.nil
end Go.Proofs.YtdnnhoggpakjbaaDoor
