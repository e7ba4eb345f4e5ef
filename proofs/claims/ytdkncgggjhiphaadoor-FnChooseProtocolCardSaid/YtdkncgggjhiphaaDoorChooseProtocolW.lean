/-
  THE WALK OF THE LAW FnChooseProtocol: the Go text of the law, step by step: it returns true, and what was in memory stays as it was. For every argument of the law's own types.
-/
import Derived.Test.YtdkncgggjhiphaaDoorMem
import Derived.Test.YtdkncgggjhiphaaDoorFits3
import Derived.Test.YtdkncgggjhiphaaDoorBlk
import Derived.Deep.QuietTactic
import Derived.BigQuiet
import Derived.Deep.LoopGhost
namespace Go.Proofs.YtdkncgggjhiphaaDoor.fnChooseProtocol
open Go.ChangeShapes Go.WideShapes Go.ChangeAt Go.RowKit
open Go.ChangeMaps (open_string shut_string)
set_option linter.unusedVariables false
set_option linter.unusedSimpArgs false

/-- Two texts are equal, as the program's text compares them. -/
def eqB (s t : ByteArray) : Bool := s.toList == t.toList
def hasB (ts : List ByteArray) (s : ByteArray) : Bool := ts.any fun t => eqB s t
def pick (mine theirs : List ByteArray) : Option ByteArray := mine.find? (hasB theirs)

theorem hasB_take_succ (ts : List ByteArray) (s : ByteArray) (k : Nat) (h : k < ts.length) : hasB (ts.take (k + 1)) s = (hasB (ts.take k) s || eqB s (ts.getD k ByteArray.empty)) := by
  have e : ts.getD k ByteArray.empty = ts[k] := by simp [List.getD, List.getElem?_eq_getElem h]
  rw [e]
  unfold hasB
  rw [List.take_succ_eq_append_getElem h, List.any_append]
  simp only [List.any_cons, List.any_nil, Bool.or_false]
theorem hasB_of_take (ts : List ByteArray) (s : ByteArray) (k : Nat) (h : hasB (ts.take k) s = true) : hasB ts s = true := by
  unfold hasB at h ⊢
  rw [List.any_eq_true] at h ⊢
  obtain ⟨x, hx, he⟩ := h
  exact ⟨x, List.mem_of_mem_take hx, he⟩

def IdxPost (ts : List ByteArray) (s : ByteArray) (e : Ending) : Prop := ∃ n : Int, e = .returned (.int .i64 n) ∧ (decide (0 ≤ n)) = hasB ts s

set_option maxRecDepth 100000 in
theorem index_any (b off len cap : Nat) (ts : List ByteArray) (s : ByteArray) (w : World) (hl : ts.length = len) (hm : len ≤ 2147483647) (hc : ∀ i, i < len → w.cell? ⟨b, off + i, none⟩ = some (.string (ts.getD i ByteArray.empty))) :
    Calls Tryd.prog 80 #[.slice (some ⟨b, off, none⟩) len cap, .string s] w fun e w' => IdxPost ts s e ∧ w = w' := by
  go_enter Tryd.func80, Tryd.ntmps80
  go_wp2
  go_loop [5, 8] (fun _ i => ∃ k : Nat, k ≤ len ∧ i = .int .i64 k ∧ hasB (ts.take k) s = false) (fun _ i => len - (intOf i).toNat)
  case atStart => exact ⟨0, Nat.zero_le _, rfl, rfl⟩
  case round =>
    obtain ⟨k, hk, rfl, hno⟩ := hrel
    have HNO := Lib.hid hno
    clear hno
    by_cases hlt : k < len
    · have hcell := hc k hlt
      have hi : (k : Int) < len := by omega
      have hs := hasB_take_succ ts s k (by omega)
      generalize ts.getD k ByteArray.empty = t at *
      clear hc
      cases he : eqB s t
      · have HS := Lib.hid hs
        have he' : (s.toList == t.toList) = false := he
        clear hs he
        go_wp2
        go_round
        case rel => exact ⟨k + 1, by omega, by go_num, by rw [HS.out, HNO.out, Bool.false_or]; exact he'⟩
        case measure => simp [intOf]; omega
      · have HS := Lib.hid hs
        have HE := Lib.hid he
        have he' : (s.toList == t.toList) = true := he
        clear hs he
        go_wp2
        go_ret
        refine ⟨⟨k, rfl, ?_⟩, rfl⟩
        rw [hasB_of_take ts s (k + 1) (by rw [HS.out, HE.out, Bool.or_true])]
        simp
    · obtain rfl : k = len := by omega
      go_wp2
      go_ret
      refine ⟨⟨-1, rfl, ?_⟩, rfl⟩
      rw [← List.take_of_length_le (Nat.le_of_eq hl), HNO.out]
      rfl

theorem ret_bool {a b : Bool} (h : a = b) : Ending.returned (.bool a) = .returned (.bool b) := by rw [h]
theorem contains_any (b off len cap : Nat) (ts : List ByteArray) (s : ByteArray) (w : World) (hl : ts.length = len) (hm : len ≤ 2147483647) (hc : ∀ i, i < len → w.cell? ⟨b, off + i, none⟩ = some (.string (ts.getD i ByteArray.empty))) :
    Calls Tryd.prog 67 #[.slice (some ⟨b, off, none⟩) len cap, .string s] w fun e w' => e = .returned (.bool (hasB ts s)) ∧ w = w' := by
  go_enter Tryd.func67, Tryd.ntmps67
  go_wp2_with fail
  refine (index_any b off len cap ts s w hl hm hc).mono ?_
  rintro e w' ⟨⟨n, rfl, hn⟩, rfl⟩
  have HN := Lib.hid hn
  clear hn hc
  go_wp2_with fail
  go_ret
  exact ⟨ret_bool HN.out, rfl⟩

/-- What the package's choice answers. -/
def Chosen (mine theirs : List ByteArray) (e : Ending) : Prop :=
  (∃ s, pick mine theirs = some s ∧ e = .returned (.tuple #[.string s, .nilIface])) ∨ (pick mine theirs = none ∧ ∃ a, e = .returned (.tuple #[.string ⟨#[]⟩, .iface 155 (.pointer (some a))]))

theorem pick_take (mine theirs : List ByteArray) (k : Nat) (hk : k < mine.length) (h : pick (mine.take k) theirs = none) (hh : hasB theirs (mine.getD k ByteArray.empty) = true) : pick mine theirs = some (mine.getD k ByteArray.empty) := by
  have e : mine.getD k ByteArray.empty = mine[k] := by simp [List.getD, List.getElem?_eq_getElem hk]
  have e2 : mine = mine.take k ++ mine[k] :: mine.drop (k + 1) := by rw [List.getElem_cons_drop]; simp
  rw [e] at hh ⊢
  generalize mine[k] = x at *
  unfold pick at h ⊢
  rw [e2, List.find?_append, h, List.find?_cons_of_pos (by simpa using hh)]
  simp
theorem pick_take_succ (mine theirs : List ByteArray) (k : Nat) (hk : k < mine.length) (h : pick (mine.take k) theirs = none) (hh : hasB theirs (mine.getD k ByteArray.empty) = false) : pick (mine.take (k + 1)) theirs = none := by
  have e : mine.getD k ByteArray.empty = mine[k] := by simp [List.getD, List.getElem?_eq_getElem hk]
  rw [e] at hh
  unfold pick at h ⊢
  rw [List.take_succ_eq_append_getElem hk, List.find?_append, h, List.find?_cons_of_neg (by simp [hh])]
  rfl

set_option maxRecDepth 100000 in
theorem select_any (b off len cap b2 off2 len2 cap2 : Nat) (ms ts : List ByteArray) (w : World) (hl : ms.length = len) (hl2 : ts.length = len2) (hm : len ≤ 2147483647) (hm2 : len2 ≤ 2147483647) (h0 : 0 < len) (h02 : 0 < len2)
    (hc : ∀ i, i < len → w.cell? ⟨b, off + i, none⟩ = some (.string (ms.getD i ByteArray.empty))) (hc2 : ∀ i, i < len2 → w.cell? ⟨b2, off2 + i, none⟩ = some (.string (ts.getD i ByteArray.empty)))
    (e0 : IsErr 155 w 2) :
    Calls Tryd.prog 40 #[.slice (some ⟨b, off, none⟩) len cap, .slice (some ⟨b2, off2, none⟩) len2 cap2] w fun e w' => Chosen ms ts e ∧ Below w.heap.size w w' := by
  obtain ⟨a, he⟩ := e0
  have z1 : ((len : Int) == 0) = false := beq_eq_false_iff_ne.2 (by omega)
  have z2 : ((len2 : Int) == 0) = false := beq_eq_false_iff_ne.2 (by omega)
  have HC2 := Lib.hid hc2
  clear hc2
  go_enter Tryd.func40, Tryd.ntmps40
  go_wp2
  go_loop [7, 18] (fun _ i => ∃ k : Nat, k ≤ len ∧ i = .int .i64 k ∧ pick (ms.take k) ts = none) (fun _ i => len - (intOf i).toNat)
  case atStart => exact ⟨0, Nat.zero_le _, rfl, rfl⟩
  case round =>
    obtain ⟨k, hk, rfl, hno⟩ := hrel
    have HNO := Lib.hid hno
    clear hno
    by_cases hlt : k < len
    · have hcell := hc k hlt
      have hi : (k : Int) < len := by omega
      have h1 := pick_take ms ts k (by omega) HNO.out
      have h2 := pick_take_succ ms ts k (by omega) HNO.out
      generalize ms.getD k ByteArray.empty = t at *
      clear hc
      cases hh : hasB ts t
      · have H2 := Lib.hid (h2 hh)
        have HH := Lib.hid hh
        clear h1 h2 hh
        go_wp2_with (go_at_call 67; refine (contains_any b2 off2 len2 cap2 ts t _ hl2 hm2 HC2.out).mono ?_; rintro e w' ⟨rfl, rfl⟩; rw [HH.out])
        go_round
        case rel => exact ⟨k + 1, by omega, by go_num, H2.out⟩
        case measure => simp [intOf]; omega
      · have H1 := Lib.hid (h1 hh)
        have HH := Lib.hid hh
        clear h1 h2 hh
        go_wp2_with (go_at_call 67; refine (contains_any b2 off2 len2 cap2 ts t _ hl2 hm2 HC2.out).mono ?_; rintro e w' ⟨rfl, rfl⟩; rw [HH.out])
        go_ret2
        exact ⟨.inl ⟨t, H1.out, rfl⟩, Below.refl _ _⟩
    · obtain rfl : k = len := by omega
      clear hc
      go_wp2
      go_quiet (fail)
      go_wp2
      go_ret2
      rw [List.take_of_length_le (Nat.le_of_eq hl)] at HNO
      exact ⟨.inr ⟨HNO.out, a, rfl⟩, below_drewN (Below.refl _ _) _⟩

/-- What both doors of the choice answer. -/
def Said (mine theirs : List ByteArray) : Value := match pick mine theirs with | some s => .tuple #[.string s, .bool true] | none => .tuple #[.string ⟨#[]⟩, .bool false]

set_option maxRecDepth 100000 in
theorem impl_any (b off len cap b2 off2 len2 cap2 : Nat) (ms ts : List ByteArray) (w : World) (hl : ms.length = len) (hl2 : ts.length = len2) (hm : len ≤ 2147483647) (hm2 : len2 ≤ 2147483647) (h0 : 0 < len) (h02 : 0 < len2)
    (hc : ∀ i, i < len → w.cell? ⟨b, off + i, none⟩ = some (.string (ms.getD i ByteArray.empty))) (hc2 : ∀ i, i < len2 → w.cell? ⟨b2, off2 + i, none⟩ = some (.string (ts.getD i ByteArray.empty)))
    (e0 : IsErr 155 w 2) :
    Calls Tryd.prog 18 #[.slice (some ⟨b, off, none⟩) len cap, .slice (some ⟨b2, off2, none⟩) len2 cap2] w fun e w' => e = .returned (Said ms ts) ∧ Below w.heap.size w w' := by
  go_enter Tryd.func18, Tryd.ntmps18
  go_wp2_with fail
  refine (select_any b off len cap b2 off2 len2 cap2 ms ts w hl hl2 hm hm2 h0 h02 hc hc2 e0).mono ?_
  rintro e w' ⟨⟨s, hp, rfl⟩ | ⟨hp, a, rfl⟩, hb⟩
  · have HP := Lib.hid hp
    clear hp hc hc2
    go_wp2_with fail
    go_ret2
    exact ⟨by unfold Said; rw [HP.out]; rfl, hb⟩
  · have HP := Lib.hid hp
    clear hp hc hc2
    go_wp2_with fail
    go_ret2
    exact ⟨by unfold Said; rw [HP.out]; rfl, hb⟩

set_option maxRecDepth 100000 in
set_option maxHeartbeats 1000000 in
theorem spec_any (b off len cap b2 off2 len2 cap2 : Nat) (ms ts : List ByteArray) (w : World) (hl : ms.length = len) (hl2 : ts.length = len2) (hm : len ≤ 2147483647) (hm2 : len2 ≤ 2147483647) (h0 : 0 < len) (h02 : 0 < len2) (hb1 : b < w.heap.size) (hb2 : b2 < w.heap.size)
    (hc : ∀ i, i < len → w.cell? ⟨b, off + i, none⟩ = some (.string (ms.getD i ByteArray.empty))) (hc2 : ∀ i, i < len2 → w.cell? ⟨b2, off2 + i, none⟩ = some (.string (ts.getD i ByteArray.empty))) :
    Calls Tryd.prog 19 #[.slice (some ⟨b, off, none⟩) len cap, .slice (some ⟨b2, off2, none⟩) len2 cap2] w fun e w' => e = .returned (Said ms ts) ∧ Below w.heap.size w w' := by
  have z1 : ((len : Int) == 0) = false := beq_eq_false_iff_ne.2 (by omega)
  have z2 : ((len2 : Int) == 0) = false := beq_eq_false_iff_ne.2 (by omega)
  have HC := Lib.hid hc
  have HC2 := Lib.hid hc2
  clear hc2 hc
  go_enter Tryd.func19, Tryd.ntmps19
  go_wp2
  go_loopw [6, 7] (fun i _ wr => ∃ k : Nat, k ≤ len ∧ i = .int .i64 k ∧ pick (ms.take k) ts = none ∧ Below w.heap.size w wr) (fun i _ _ => len - (intOf i).toNat)
  case atStart => exact ⟨0, Nat.zero_le _, rfl, rfl, Below.refl _ _⟩
  case round =>
    obtain ⟨k, hk, rfl, hno, hbw⟩ := hrel
    have HNO := Lib.hid hno
    clear hno
    by_cases hlt : k < len
    · have hi : (k : Int) < len := by omega
      have h1 := pick_take ms ts k (by omega) HNO.out
      have h2 := pick_take_succ ms ts k (by omega) HNO.out
      have hcell := HC.out k hlt
      have ht := hasB_take_succ ts
      generalize ms.getD k ByteArray.empty = t at *
      have H1 := Lib.hid h1
      have H2 := Lib.hid h2
      have HT := Lib.hid ht
      clear h1 h2 ht
      obtain ⟨wo, rfl⟩ : ∃ wo : World, wo = wr := ⟨_, rfl⟩
      go_wp2_with fail
      go_loopw [7] (fun j wr => ∃ m : Nat, m ≤ len2 ∧ j = .int .i64 m ∧ hasB (ts.take m) t = false ∧ Below w.heap.size w wr) (fun j _ => len2 - (intOf j).toNat)
      case atStart => exact ⟨0, Nat.zero_le _, rfl, rfl, hbw⟩
      case round =>
        obtain ⟨m, hm', rfl, hnm, hbi⟩ := hrel
        have HNM := Lib.hid hnm
        clear hnm
        by_cases hlt2 : m < len2
        · have hi2 : (m : Int) < len2 := by omega
          have c1 := (hbi.cell (p := ⟨b, off + k, none⟩) hb1).trans hcell
          have c2 := (hbi.cell (p := ⟨b2, off2 + m, none⟩) hb2).trans (HC2.out m hlt2)
          have hst := HT.out t m (by omega)
          rw [HNM.out, Bool.false_or] at hst
          generalize ts.getD m ByteArray.empty = u at *
          cases he : eqB t u
          · have he' : (t.toList == u.toList) = false := he
            have HS := Lib.hid (hst.trans he)
            clear hst he
            go_wp2_with fail
            go_quiet (fail)
            go_wp2
            go_roundw
            case rel => exact ⟨m + 1, by omega, by go_num, HS.out, below_drewN hbi _⟩
            case measure => simp [intOf]; omega
          · have he' : (t.toList == u.toList) = true := he
            have HY := Lib.hid (H1.out (hasB_of_take ts t (m + 1) (hst.trans he)))
            clear hst he
            go_wp2_with fail
            go_quiet (fail)
            go_wp2
            go_ret2
            exact ⟨by unfold Said; rw [HY.out]; rfl, below_drewN hbi _⟩
        · obtain rfl : m = len2 := by omega
          have hnm := HNM.out
          rw [List.take_of_length_le (Nat.le_of_eq hl2)] at hnm
          have HZ := Lib.hid (H2.out hnm)
          clear hnm
          go_wp2
          go_roundw
          case rel => exact ⟨k + 1, by omega, by go_num, HZ.out, hbi⟩
          case measure => simp [intOf]; omega
    · obtain rfl : k = len := by omega
      go_wp2
      go_ret2
      rw [List.take_of_length_le (Nat.le_of_eq hl)] at HNO
      exact ⟨by unfold Said; rw [HNO.out]; rfl, hbw⟩

theorem said_cases (ms ts : List ByteArray) : (∃ s, Said ms ts = .tuple #[.string s, .bool true]) ∨ Said ms ts = .tuple #[.string ⟨#[]⟩, .bool false] := by
  unfold Said
  cases pick ms ts with
  | none => exact .inr rfl
  | some s => exact .inl ⟨s, rfl⟩

set_option maxRecDepth 100000 in
set_option maxHeartbeats 1000000 in
theorem walk (w : World) (a0 : Option Addr) (len0 cap0 : Nat) (z0 : List ByteArray) (w0 : IsStrs w a0 len0 cap0 z0) (a1 : Option Addr) (len1 cap1 : Nat) (z1 : List ByteArray) (w1 : IsStrs w a1 len1 cap1 z1) (e0 : IsErr 155 w 2) :
    Calls Tryd.prog 5 #[.slice a0 len0 cap0, .slice a1 len1 cap1] w fun e w' => e = .returned (.bool true) ∧ Below w.heap.size w w' := by
  have F0 := fits3_any w a0 len0 cap0 z0 w0
  have F1 := fits3_any w a1 len1 cap1 z1 w1
  obtain ⟨p1, p2, p3, p4, p5⟩ := w0
  obtain ⟨q1, q2, q3, q4, q5⟩ := w1
  clear p4 q4
  unfold maxLen at p2 q2
  cases f0 : fitsB z0
  · rw [f0] at F0
    have H0 := Lib.hid F0
    clear F0 F1 f0 p5 q5 p3 q3
    go_enter Tryd.func5, Tryd.ntmps5
    go_wp2_with fail
    refine H0.out.mono ?_
    rintro e w' ⟨rfl, rfl⟩
    go_wp2
    go_ret
    exact ⟨rfl, Below.refl _ _⟩
  · rw [f0] at F0
    have l0 := fitsB_len f0
    rw [p3] at l0
    have H0 := Lib.hid F0
    clear F0 f0
    cases f1 : fitsB z1
    · rw [f1] at F1
      have H1 := Lib.hid F1
      clear F1 f1 p5 q5 p3 q3
      go_enter Tryd.func5, Tryd.ntmps5
      go_wp2_with fail
      refine H0.out.mono ?_
      rintro e w' ⟨rfl, rfl⟩
      go_wp2_with fail
      refine H1.out.mono ?_
      rintro e w' ⟨rfl, rfl⟩
      go_wp2
      go_ret
      exact ⟨rfl, Below.refl _ _⟩
    · rw [f1] at F1
      have l1 := fitsB_len f1
      rw [q3] at l1
      have H1 := Lib.hid F1
      clear F1 f1
      by_cases hbad : len0 = 0 ∨ len1 = 0 ∨ 200 < len0 ∨ 200 < len1
      · have P3 := Lib.hid p3
        have Q3 := Lib.hid q3
        clear p5 q5 p3 q3
        have go : ∀ (x0 : ((len0 : Int) == 0) = true ∨ (((len0 : Int) == 0) = false ∧ (((len1 : Int) == 0) = true ∨ (((len1 : Int) == 0) = false ∧ (200 < (len0 : Int) ∨ (¬ 200 < (len0 : Int) ∧ 200 < (len1 : Int))))))), Calls Tryd.prog 5 #[.slice a0 len0 cap0, .slice a1 len1 cap1] w fun e w' => e = .returned (.bool true) ∧ Below w.heap.size w w' := by
          intro x0
          clear hbad
          rcases x0 with x0 | ⟨x0, x1 | ⟨x1, x2 | ⟨x2, x3⟩⟩⟩
          all_goals
            go_enter Tryd.func5, Tryd.ntmps5
            go_wp2_with fail
            refine H0.out.mono ?_
            rintro e w' ⟨rfl, rfl⟩
            go_wp2_with fail
            refine H1.out.mono ?_
            rintro e w' ⟨rfl, rfl⟩
            go_wp2
            go_ret
            exact ⟨rfl, Below.refl _ _⟩
        refine go ?_
        by_cases y0 : len0 = 0
        · exact .inl (beq_iff_eq.2 (by omega))
        · refine .inr ⟨beq_eq_false_iff_ne.2 (by omega), ?_⟩
          by_cases y1 : len1 = 0
          · exact .inl (beq_iff_eq.2 (by omega))
          · refine .inr ⟨beq_eq_false_iff_ne.2 (by omega), ?_⟩
            by_cases y2 : 200 < (len0 : Int)
            · exact .inl y2
            · exact .inr ⟨y2, by omega⟩
      · have g0 : 0 < len0 := by omega
        have g1 : 0 < len1 := by omega
        obtain ⟨b0, o0, rfl, hb0, hc0⟩ := p5 g0
        obtain ⟨b1, o1, rfl, hb1, hc1⟩ := q5 g1
        clear p5 q5
        have I := impl_any b0 o0 len0 cap0 b1 o1 len1 cap1 z0 z1 w p3 q3 l0 l1 g0 g1 hc0 hc1 e0
        have K0 := fun (w' : World) (hb : Below w.heap.size w w') => spec_any b0 o0 len0 cap0 b1 o1 len1 cap1 z0 z1 w' p3 q3 l0 l1 g0 g1 (Nat.lt_of_lt_of_le hb0 hb.size) (Nat.lt_of_lt_of_le hb1 hb.size)
          (fun i hi => (hb.cell (p := ⟨b0, o0 + i, none⟩) hb0).trans (hc0 i hi)) (fun i hi => (hb.cell (p := ⟨b1, o1 + i, none⟩) hb1).trans (hc1 i hi))
        have HI := Lib.hid I
        have HK := Lib.hid K0
        have z1' : ((len0 : Int) == 0) = false := beq_eq_false_iff_ne.2 (by omega)
        have z2' : ((len1 : Int) == 0) = false := beq_eq_false_iff_ne.2 (by omega)
        have HS := Lib.hid (said_cases z0 z1)
        generalize Said z0 z1 = V at *
        clear I K0 p3 q3 hc0 hc1 e0
        rcases HS.out with ⟨s, rfl⟩ | rfl
        all_goals
          go_enter Tryd.func5, Tryd.ntmps5
          go_wp2_with fail
          refine H0.out.mono ?_
          rintro e w' ⟨rfl, rfl⟩
          go_wp2_with fail
          refine H1.out.mono ?_
          rintro e w' ⟨rfl, rfl⟩
          go_wp2_with fail
          refine HI.out.mono ?_
          rintro e w2 ⟨rfl, hb2⟩
          go_wp2_with fail
          refine (HK.out w2 hb2).mono ?_
          rintro e w3 ⟨rfl, hb3⟩
          go_wp2
          go_ret
          exact ⟨rfl, hb2.trans (hb3.mono hb2.size)⟩
end Go.Proofs.YtdkncgggjhiphaaDoor.fnChooseProtocol
