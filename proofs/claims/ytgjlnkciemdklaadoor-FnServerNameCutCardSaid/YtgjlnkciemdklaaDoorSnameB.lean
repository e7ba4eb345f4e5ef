/-
  CONTRACTS of strings.HasSuffix(.., ".") and of ServerName's Unmarshal at a text that is laid out as the standard says, for a name with and without a last point.
-/
import Derived.Test.YtgjlnkciemdklaaDoorSnameA
namespace Go.Proofs.YtgjlnkciemdklaaDoor.fnServerNameCut
open Go.ChangeShapes Go.WideShapes Go.ChangeAt Go.RowKit
set_option linter.unusedVariables false
set_option linter.unusedSimpArgs false
theorem wrap64_of (x : Int) (h0 : 0 ≤ x) (h : x < 4294967296) : wrap64 x = x := by unfold wrap64; omega
set_option maxRecDepth 100000 in
theorem suf0 (s : ByteArray) (n : Nat) (b : Bool) (hn : s.size = n) (h1 : 1 ≤ (n : Int)) (hs : n < 4294967296) (hb : ((s.extract (n - 1) n).toList == [46]) = b) (w : World) : Calls Tryd.prog 116 #[.string s, .string ⟨#[46]⟩] w fun e w' => e = .returned (.bool b) ∧ w = w' := by
  have hw : wrap64 ((n : Int) - 1) = (n : Int) - 1 := wrap64_of _ (by omega) (by omega)
  have HB := Lib.hid hb
  clear hb hs
  go_enter Tryd.func116, Tryd.ntmps116
  go_wp2_with fail
  rw [HB.out]
  go_ret
  exact ⟨rfl, rfl⟩
theorem ext_last (s : ByteArray) (n : Nat) (hn : s.size = n) (h1 : 1 ≤ n) : (s.extract (n - 1) n).toList = [s[n - 1]'(by omega)] := by
  obtain ⟨⟨l⟩⟩ := s
  have hl : l.length = n := hn
  rw [toList_data, Lib.extract_data]
  rw [show n - (n - 1) = 1 by omega, List.drop_eq_getElem_cons (show n - 1 < l.length by omega)]
  rfl
theorem suf (s : ByteArray) (b : Bool) (h1 : 1 ≤ s.size) (hs : s.size < 4294967296) (hb : (s[s.size - 1]'(by omega) == 46) = b) (w : World) : Calls Tryd.prog 100 #[.string s, .string ⟨#[46]⟩] w fun e w' => e = .returned (.bool b) ∧ w = w' := by
  have HS := Lib.hid (suf0 s s.size b rfl (by omega) hs (by rw [ext_last s s.size rfl h1, ← hb]; simp) w)
  clear hb hs h1
  go_enter Tryd.func100, Tryd.ntmps100
  go_wp2_with fail
  refine HS.out.mono ?_
  rintro e w1 ⟨rfl, rfl⟩
  go_wp2_with fail
  go_ret
  exact ⟨rfl, rfl⟩

/-- The list of one name, behind its length. -/
def snL (s : List UInt8) : List UInt8 := bigL (3 + s.length) 2 ++ (0 :: (bigL s.length 2 ++ s))

theorem grown_red {a b c : World} {row : Option Nat} {p q : Nat} (h : a.grownBy b row) (k : Red b c p q) (hp : a.heap.size ≤ p) (hq : a.heap.size ≤ q) : a.grownBy c row :=
  ⟨k.os.trans h.os, k.tape.trans h.tape, k.output.trans h.output, Nat.le_trans h.size k.size, fun i hi hne => (k.block i (Nat.lt_of_lt_of_le hi h.size) (by omega) (by omega)).trans (h.block i hi hne)⟩

/-- How much of the list is left. -/
def leftOf (nl : Nat) (w : World) : Nat := match w.cell? ⟨nl, 0, none⟩ with | some (.slice _ n _) => n | _ => 0
def Done (p nl b : Nat) (dot : Bool) (s : ByteArray) (w wr : World) : Prop :=
  dot = false ∧ Blk wr p 120 #[.string s] ∧ (∃ off c, wr.cell? ⟨nl, 0, none⟩ = some (.slice (some ⟨b, off, none⟩) 0 c)) ∧ w.grownBy wr (some p)
def DotErr (dot : Bool) (p : Nat) (s : ByteArray) (w w' : World) (e : Ending) : Prop :=
  (dot = true ∧ SomeErr e ∨ dot = false ∧ e = .returned .nilIface ∧ Blk w' p 120 #[.string s]) ∧ w.grownBy w' (some p)

set_option maxHeartbeats 8000000 in
set_option maxRecDepth 100000 in
theorem unm_ok (p b n c m k : Nat) (dot : Bool) (s : ByteArray) (l : List UInt8) (w : World) (hX : Blk w p 120 #[.string ⟨#[]⟩]) (hl : l.length = n) (hB : Bytes w b 0 l) (hb : b < w.heap.size) (hpb : p ≠ b) (hc : n ≤ c) (hn : 2 ≤ n) (hm : n < 2147483648)
    (ht : two l 0 = 0) (hd : n = 4 + m ∧ numOf ((l.drop 2).take 2) = m) (hk : s.size = k ∧ 1 ≤ k ∧ k < 65000 ∧ m = 5 + k ∧ l.drop 4 = snL s.data.toList) (hdot : ∀ h : s.size - 1 < s.size, (s[s.size - 1]'h == 46) = dot)
    (ef : IsErr 206 w 13) :
    Calls Tryd.prog 69 #[.pointer (some ⟨p, 0, none⟩), .slice (some ⟨b, 0, none⟩) n c] w fun e w' => DotErr dot p s w w' e := by
  have l1 := ef.lt
  obtain ⟨a1, c1⟩ := ef
  have HD := Lib.hid hd
  have HK := Lib.hid hk
  have HSUF := Lib.hid (fun w1 => suf s dot (by omega) (by omega) (hdot (by omega)) w1)
  have HPB := Lib.hid hpb
  have hpe : p ≠ 13 := by
    intro h
    have h1 := hX.at 0 (.string ⟨#[]⟩) rfl
    rw [h] at h1
    rw [h1] at c1
    cases c1
  clear hd hk hdot hpb
  have hp := hX.lt
  have HS := Lib.hid (str_new w b c l n hl hc hB hb)
  have HL := Lib.hid hl
  clear hB hl
  go_enter Tryd.func69, Tryd.ntmps69
  go_upto_region 3 with fail
  have hS1 := HS.out (.cells #[.int .u16 0] 30)
  have hQ1 := num_new w (.cells #[.slice (some ⟨b, 0, none⟩) n c] 152)
  have hb1 : Below w.heap.size w ((w.alloc (.cells #[.slice (some ⟨b, 0, none⟩) n c] 152)).alloc (.cells #[.int .u16 0] 30)) := ((Below.refl _ _).alloc (Nat.le_refl _) _).alloc (by simp) _
  have hX1 := hX.below hb1 hp
  clear HS hX
  generalize ((w.alloc (.cells #[.slice (some ⟨b, 0, none⟩) n c] 152)).alloc (.cells #[.int .u16 0] 30)) = w1 at *
  have HU := Lib.hid (u16_ok w.heap.size b (w.heap.size + 1) 0 l w1 hS1 (by rw [HL.out]; exact hn) (by rw [HL.out]; exact hm) ht (.int .u16 0) (hQ1.at 0 _ rfl) (hQ1.frozen 0) (by omega) (by omega))
  have HB := Lib.hid hb1
  have hs1 := hb1.size
  have HX1 := Lib.hid hX1
  have HQ1 := Lib.hid hQ1
  have HT := Lib.hid ht
  clear hS1 hQ1 hX1 hb1 ht
  go_wp2_with (go_at_call 84; refine HU.out.mono ?_; rintro e w2 ⟨rfl, hS2, q0, hr2⟩; rw [HT.out] at q0; have hX2 := hr2.blk HX1.out (show p ≠ w.heap.size by omega) (show p ≠ w.heap.size + 1 by omega); have y0 := hX2.at 0 _ rfl)
  have hb2 : Below w.heap.size w w2 := HB.out.trans (hr2.below (Nat.le_refl _) (by omega) hs1)
  have hq1 : w.heap.size + 1 < w2.heap.size := Nat.lt_of_lt_of_le HQ1.out.lt hr2.size
  have hs2 := hb2.size
  have hp1 := hX2.lt
  have HS2 := Lib.hid hS2
  have HX2 := Lib.hid hX2
  have HB2 := Lib.hid hb2
  clear hS2 hX2 hb2 hr2
  go_region_with (go_at_call 98; refine (tv_any _ _).mono ?_; rintro e w3 ⟨rfl, hb3⟩; have q3 := (hb3.cell (p := ⟨w.heap.size + 1, 0, none⟩) hq1).trans q0; have y3 := (hb3.cell (p := ⟨p, 0, none⟩) hp1).trans y0)
  all_goals
    have hb3' : Below w.heap.size w w3 := HB2.out.drew.trans (hb3.mono hs2)
    have hS3 : Str w3 w.heap.size b (l.drop 2) := HS2.out.drew.below hb3 (by show w.heap.size < w2.heap.size; omega) (by show b < w2.heap.size; omega)
    have hX3 := HX2.out.drew.below hb3 hp1
    have hs3 := hb3'.size
    have hl3 := hS3.lt
    have hpl3 : p < w3.heap.size := by omega
    have hdl : (l.drop 2).length = n - 2 := by rw [List.length_drop, HL.out]
    have hQ4 : Blk (w3.alloc (.cells #[.slice none 0 0] 152)) w3.heap.size 152 #[.slice none 0 0] := Blk.new w3 _ _
    have HR := Lib.hid (lp16_ok w.heap.size b w3.heap.size m (l.drop 2) (w3.alloc (.cells #[.slice none 0 0] 152)) (hS3.below ((Below.refl _ _).alloc (Nat.le_refl _) _) hS3.lt (by omega)) (by have := HD.out.1; omega) (by omega) HD.out.2 (.slice none 0 0) hQ4 (by omega) (by omega))
    have HX3 := Lib.hid (hX3.alloc (.cells #[.slice none 0 0] 152))
    have HB3 := Lib.hid (hb3'.alloc hs3 (.cells #[.slice none 0 0] 152))
    have hsz4 : (w3.alloc (.cells #[.slice none 0 0] 152)).heap.size = w3.heap.size + 1 := by simp
    clear hS3 hdl hb3 hb3' q0 q3 y0 y3 hX3 hQ4
    go_wp2_with fail
    refine HR.out.mono ?_
    rintro e w5 ⟨rfl, hS5, hE5, hr5⟩
    have hX5 := hr5.blk HX3.out (show p ≠ w.heap.size by omega) (show p ≠ w3.heap.size by omega)
    have hs5 : w3.heap.size < w5.heap.size := by (have := hr5.size; omega)
    have hb5 : Below w.heap.size w w5 := HB3.out.trans (hr5.below (Nat.le_refl _) hs3 (by omega))
    have hl5e : (((l.drop 2).drop 2).take m) = l.drop 4 := by
      have := HL.out; have := HD.out.1
      rw [List.drop_drop]
      exact List.take_of_length_le (by rw [List.length_drop]; omega)
    rw [hl5e] at hE5
    have hl5 : (l.drop 4).length = m := by
      have := HL.out; have := HD.out.1
      rw [List.length_drop]; omega
    clear hl5e HR HX3 HB3 hS5 hr5
    have hll : s.data.toList.length = k := by have := HK.out; rw [toList_size]; omega
    have h5a : numOf ((l.drop 4).take 2) = 3 + k := by
      rw [HK.out.2.2.2.2]
      have := HK.out
      simp [snL, bigL, numOf, hll]
      omega
    have h5b : ((l.drop 4).drop 2).take (3 + k) = 0 :: (bigL k 2 ++ s.data.toList) := by
      rw [HK.out.2.2.2.2]
      simp [snL, bigL, hll]
      rw [List.take_of_length_le (by simp [hll]; omega)]
    have hm5 : m = 5 + k := HK.out.2.2.2.1
    have hkb : 1 ≤ k ∧ k < 65000 := ⟨HK.out.2.1, HK.out.2.2.1⟩
    generalize l.drop 4 = l5 at *
    have HE5 := Lib.hid (And.intro hX5 (And.intro hb5 hE5))
    have HR8 := Lib.hid (lp16_ok w3.heap.size b w5.heap.size (3 + k) l5 (w5.alloc (.cells #[.slice none 0 0] 152)) (hE5.below ((Below.refl _ _).alloc (Nat.le_refl _) _) hE5.lt (by omega)) (by omega) (by omega) h5a (.slice none 0 0) (Blk.new w5 _ _) (by omega) (by omega))
    rw [h5b] at HR8
    have HL5 := Lib.hid (And.intro hl5 (And.intro hll hkb))
    clear hX5 hb5 hE5 h5a h5b hl5 hll hkb hm5
    have hsz6 : (w5.alloc (.cells #[.slice none 0 0] 152)).heap.size = w5.heap.size + 1 := by simp
    go_wp2_with fail
    refine HR8.out.mono ?_
    rintro e w7 ⟨rfl, hE7, hC7, hr7⟩
    have hX7 := hr7.blk (HE5.out.1.alloc (.cells #[.slice none 0 0] 152)) (show p ≠ w3.heap.size by omega) (show p ≠ w5.heap.size by omega)
    have hs7 : w5.heap.size < w7.heap.size := by (have := hr7.size; omega)
    have hb7 : Below w.heap.size w w7 := (HE5.out.2.1.alloc (by omega) _).trans (hr7.below (by omega) (by omega) (by omega))
    obtain ⟨oe, ce, hEX, hce, hEB, hEb⟩ := hE7
    have e7 := hEX.at 0 _ rfl
    rw [show (l5.drop (2 + (3 + k))).length = 0 by (rw [List.length_drop, HL5.out.1]; have := HK.out.2.2.2.1; omega)] at e7
    have HC7 := Lib.hid hC7
    obtain ⟨oc, cc, hCX, hcc, hcB, hcb⟩ := hC7
    have c7 := hCX.at 0 _ rfl
    have hl7 : (0 :: (bigL k 2 ++ s.data.toList)).length = 3 + k := by
      have := HL5.out.2.1
      simp [bigL_length, this]; omega
    rw [hl7] at c7
    have HX7 := Lib.hid (And.intro hX7 hb7)
    clear hEX hEB hcB hCX hX7 hb7 hr7 hce hcc
    obtain ⟨nl, hnl⟩ : ∃ nl, nl = 3 + k := ⟨_, rfl⟩
    rw [← hnl] at c7
    have hnl0 : (nl : Int) ≠ 0 := by omega
    have HNL := Lib.hid hnl
    clear hnl
    go_wp2_with fail
    refine (empty_no _ nl _ hnl0 _).mono ?_
    rintro e w8 ⟨rfl, rfl⟩
    go_wp2_with fail
    refine (empty_yes _ _ _).mono ?_
    rintro e w8 ⟨rfl, rfl⟩
    go_wp2_with fail
    have hlft : leftOf w5.heap.size w7 = nl := by
      unfold leftOf
      rw [c7]
      rfl
    have HLF := Lib.hid hlft
    clear hlft e7
    go_loopw [9] (fun _ wr => wr = w7 ∨ Done p w5.heap.size b dot s w wr) (fun _ wr => leftOf w5.heap.size wr)
    case atStart => exact Or.inl rfl
    case round =>
      rcases hrel with rfl | hdone
      · go_wp2_with fail
        refine (empty_no _ nl _ hnl0 _).mono ?_
        rintro e w8 ⟨rfl, rfl⟩
        have hp7 : p < wr.heap.size := by omega
        have hb7 : b < wr.heap.size := by omega
        have hn7 : w5.heap.size < wr.heap.size := hs7
        have hNew : Blk ((wr.alloc (.cells #[.int .u8 0] 5)).alloc (.cells #[.slice none 0 0] 152)) wr.heap.size 5 #[.int .u8 0] := (Blk.new wr _ _).alloc _
        have hNew2 : Blk ((wr.alloc (.cells #[.int .u8 0] 5)).alloc (.cells #[.slice none 0 0] 152)) (wr.heap.size + 1) 152 #[.slice none 0 0] := by
          have := Blk.new (wr.alloc (.cells #[.int .u8 0] 5)) 152 #[.slice none 0 0]
          simpa using this
        have hbA : Below wr.heap.size wr ((wr.alloc (.cells #[.int .u8 0] 5)).alloc (.cells #[.slice none 0 0] 152)) := ((Below.refl _ _).alloc (Nat.le_refl _) _).alloc (by simp) _
        have hszA : ((wr.alloc (.cells #[.int .u8 0] 5)).alloc (.cells #[.slice none 0 0] 152)).heap.size = wr.heap.size + 2 := by simp
        have hSA := HC7.out.below hbA hn7 hb7
        have hXA := HX7.out.1.below hbA hp7
        have hlA : (0 :: (bigL k 2 ++ s.data.toList)).length = 3 + k := by
          have := HL5.out.2.1
          simp [bigL_length, this]; omega
        have HU8 := Lib.hid (u8_ok w5.heap.size b wr.heap.size (0 :: (bigL k 2 ++ s.data.toList)) _ hSA (by omega) (by have := HL5.out.2.2; omega) (.int .u8 0) (hNew.at 0 _ rfl) (hNew.frozen 0) (by omega) (by omega))
        have HXA := Lib.hid (And.intro hXA (And.intro hNew2 (And.intro hbA hszA)))
        clear hNew hNew2 hbA hszA hSA hXA hlA
        go_wp2_with fail
        refine HU8.out.mono ?_
        rintro e wB ⟨rfl, hSB, hqB, hrB⟩
        have hqB' : wB.cell? ⟨wr.heap.size, 0, none⟩ = some (.int .u8 0) := hqB
        have hSB' : Str wB w5.heap.size b (bigL k 2 ++ s.data.toList) := hSB
        have hXB := hrB.blk HXA.out.1 (show p ≠ w5.heap.size by omega) (show p ≠ wr.heap.size by omega)
        have hNB := hrB.blk HXA.out.2.1 (show wr.heap.size + 1 ≠ w5.heap.size by omega) (show wr.heap.size + 1 ≠ wr.heap.size by omega)
        have hszB : wr.heap.size + 2 ≤ wB.heap.size := by (have := hrB.size; have := HXA.out.2.2.2; omega)
        have hbB : Below w.heap.size w wB := HX7.out.2.trans ((HXA.out.2.2.1.mono (by omega)).trans (hrB.below (by omega) (by omega) (by have := HXA.out.2.2.2; omega)))
        have hlB : (bigL k 2 ++ s.data.toList).length = 2 + k := by
          have := HL5.out.2.1
          simp [bigL_length, this]
        have hnB : numOf ((bigL k 2 ++ s.data.toList).take 2) = k := by
          have := HL5.out.2.2
          simp [bigL, numOf]
          omega
        have hdB : ((bigL k 2 ++ s.data.toList).drop 2).take k = s.data.toList := by
          have := HL5.out.2.1
          have e1 : (bigL k 2 ++ s.data.toList).drop 2 = s.data.toList := by simp [bigL]
          rw [e1]
          exact List.take_of_length_le (by omega)
        have HLP := lp16_ok w5.heap.size b (wr.heap.size + 1) k (bigL k 2 ++ s.data.toList) wB hSB' (by omega) (by have := HL5.out.2.2; omega) hnB (.slice none 0 0) hNB (by omega) (by omega)
        rw [hdB] at HLP
        have HLP := Lib.hid HLP
        have HXB := Lib.hid (And.intro hXB (And.intro hbB (And.intro hqB' hlB)))
        clear hqB hqB' hSB hSB' hXB hNB hbB hlB hnB hdB hrB
        go_wp2_with fail
        refine HLP.out.mono ?_
        rintro e wC ⟨rfl, hSC, hTC, hrC⟩
        have hXC := hrC.blk HXB.out.1 (show p ≠ w5.heap.size by omega) (show p ≠ wr.heap.size + 1 by omega)
        have hqC : wC.cell? ⟨wr.heap.size, 0, none⟩ = some (.int .u8 0) := (World.cell?_of_block (hrC.block wr.heap.size (by omega) (by omega) (by omega))).trans HXB.out.2.2.1
        have hbC : Below w.heap.size w wC := HXB.out.2.1.trans (hrC.below (by omega) (by omega) (by have := hs3; omega))
        obtain ⟨oT, cT, hTX, hTc, hTB, hTb⟩ := hTC
        have hls : s.data.toList.length = k := HL5.out.2.1
        have t7 := hTX.at 0 _ rfl
        rw [hls] at t7
        obtain ⟨oN, cN, hNX, hNc, hNB, hNb⟩ := hSC
        have n7 := hNX.at 0 _ rfl
        rw [show ((bigL k 2 ++ s.data.toList).drop (2 + k)).length = 0 by rw [List.length_drop, HXB.out.2.2.2]; omega] at n7
        have x7 := hXC.at 0 (.string ⟨#[]⟩) rfl
        have f7 := hXC.frozen 0
        have hk0 : (k : Int) ≠ 0 := by have := HL5.out.2.2; omega
        have HXC := Lib.hid (And.intro hXC (And.intro hbC (And.intro n7 (And.intro hTB hls))))
        clear hXC hbC hTX hTc hTB hNX hNc hNB hrC n7 hls
        go_wp2_with fail
        refine (empty_no _ k _ hk0 _).mono ?_
        rintro e w8 ⟨rfl, rfl⟩
        go_wp2_with (first
          | (refine wpList_to_string _ rfl (.tmp 58) 152 9 5 rfl Tryd.underlying152 Tryd.underlying5 Tryd.underlying9 b oT k cT s.data.toList rfl HXC.out.2.2.2.2 HXC.out.2.2.2.1 ?_; rw [show (⟨s.data.toList.toArray⟩ : ByteArray) = s from eta_bytes s]))
        refine (HSUF.out _).mono ?_
        rintro e w9 ⟨rfl, rfl⟩
        have hgE : w.grownBy (wC.setCell ⟨p, 0, none⟩ (.string s)) (some p) := grown_setCell (grown_below HXC.out.2.1 (some p)) 0 _
        have hXE := HXC.out.1.set_ 0 (.string s)
        have hnE : (wC.setCell ⟨p, 0, none⟩ (.string s)).cell? ⟨w5.heap.size, 0, none⟩ = some (.slice (some ⟨b, oN, none⟩) 0 cN) := (World.cell?_setCell_other wC ⟨p, 0, none⟩ ⟨w5.heap.size, 0, none⟩ _ (fun e => by injection e with e; omega)).trans HXC.out.2.2.1
        have kE : (wC.setCell ⟨p, 0, none⟩ (.string s)).cell? ⟨13, 0, none⟩ = some (.iface 206 (.pointer (some a1))) := (World.cell?_setCell_other wC ⟨p, 0, none⟩ ⟨13, 0, none⟩ _ (fun e => hpe (by injection e with e))).trans ((HXC.out.2.1.cell (p := ⟨13, 0, none⟩) l1).trans c1)
        have HE := Lib.hid (And.intro hgE (And.intro hXE hnE))
        clear hgE hXE hnE c7
        generalize wC.setCell ⟨p, 0, none⟩ (.string s) = wE at *
        cases dot with
        | true =>
          go_wp2_with fail
          go_ret
          exact ⟨Or.inl ⟨rfl, _, rfl⟩, HE.out.1⟩
        | false =>
          clear kE
          go_wp2_with fail
          go_roundw
          case rel => exact Or.inr ⟨rfl, HE.out.2.1, ⟨oN, cN, HE.out.2.2⟩, HE.out.1⟩
          case measure =>
            rw [HLF.out]
            unfold leftOf
            rw [HE.out.2.2]
            show 0 < nl
            omega
      · obtain ⟨hdt, hXd, ⟨od, cd, hnd⟩, hgd⟩ := hdone
        have HXd := Lib.hid (And.intro hXd hgd)
        clear hXd hgd
        go_wp2_with fail
        refine (empty_yes _ _ _).mono ?_
        rintro e w8 ⟨rfl, rfl⟩
        go_wp2_with fail
        go_ret
        exact ⟨Or.inr ⟨hdt, rfl, HXd.out.1⟩, HXd.out.2⟩
end Go.Proofs.YtgjlnkciemdklaaDoor.fnServerNameCut
