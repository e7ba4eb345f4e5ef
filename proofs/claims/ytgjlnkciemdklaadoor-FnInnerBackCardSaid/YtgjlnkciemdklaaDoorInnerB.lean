/-
  CONTRACTS of InnerPlaintext's Unmarshal and of InnerRead. Condition: the text is content, a kind that is not 0, zeros.
-/
import Derived.Test.YtgjlnkciemdklaaDoorInnerA
namespace Go.Proofs.YtgjlnkciemdklaaDoor.fnInnerBack
open Go.ChangeShapes Go.WideShapes Go.ChangeAt Go.RowKit
set_option linter.unusedVariables false
set_option linter.unusedSimpArgs false

theorem results_tmp4 {fn : Func} {t1 t2 t3 t4 : Tmp} (h : fn.results = #[.tmp t1, .tmp t2, .tmp t3, .tmp t4]) (tmps : Array Value) (P : Program) (w : World) :
    (results fn tmps).run P w = .ok (.tuple #[tmps.getD t1 undef, tmps.getD t2 undef, tmps.getD t3 undef, tmps.getD t4 undef]) w := by
  simp [results, h]
theorem wrap64_of (x : Int) (h0 : 0 ≤ x) (h : x < 4294967296) : wrap64 x = x := by unfold wrap64; omega
theorem wrapu64_of (x : Int) (h0 : 0 ≤ x) (h : x < 4294967296) : IntKind.u64.wrap x = x := by
  simp only [IntKind.wrap, IntKind.bits, IntKind.signed, Bool.false_and, if_neg Bool.false_ne_true]
  omega
theorem innL_at (l : List UInt8) (x : UInt8) (z i : Nat) (hi : i = l.length) : (innL l x z).getD i 0 = x := by
  subst hi
  simp [innL, List.getD]
theorem innL_zero (l : List UInt8) (x : UInt8) (z i : Nat) (hi : l.length < i) (h2 : i < l.length + 1 + z) : (innL l x z).getD i 0 = 0 := by
  unfold innL
  rw [List.getD_eq_getElem?_getD, List.getElem?_append_right (by simp; omega)]
  rw [List.getElem?_replicate]
  split <;> simp
theorem innL_take (l : List UInt8) (x : UInt8) (z : Nat) : (innL l x z).take l.length = l := by
  simp [innL]

def UnmOk (p m z : Nat) (x : UInt8) (l : List UInt8) (w w' : World) (e : Ending) : Prop :=
  e = .returned .nilIface ∧ ∃ k cap, Blk w' p 71 #[.slice (some ⟨k, 0, none⟩) m cap, .int .u8 (x.toNat : Int), .int .u64 z] ∧ Bytes w' k 0 l ∧ w.grownBy w' (some p)

set_option maxHeartbeats 4000000 in
set_option maxRecDepth 100000 in
theorem unm_ok (p b n c m z : Nat) (x : UInt8) (l : List UInt8) (w : World) (hX : Blk w p 71 #[.slice none 0 0, .int .u8 0, .int .u64 0]) (hl : l.length = m) (hn : n = m + 1 + z) (hB : Bytes w b 0 (innL l x z)) (hb : b < w.heap.size) (hpb : p ≠ b) (hc : n ≤ c) (hm : n < 2147493648) (hx : x ≠ 0) :
    Calls Tryd.prog 44 #[.pointer (some ⟨p, 0, none⟩), .slice (some ⟨b, 0, none⟩) n c] w fun e w' => UnmOk p m z x l w w' e := by
  have hp := hX.lt
  have x0 := hX.at 0 (.slice none 0 0) rfl
  have x1 := hX.at 1 (.int .u8 0) rfl
  have x2 := hX.at 2 (.int .u64 0) rfl
  have f0 := hX.frozen 0
  have f1 := hX.frozen 1
  have f2 := hX.frozen 2
  have hx' : (x.toNat : Int) ≠ 0 := by
    intro h
    apply hx
    have : x.toNat = 0 := by omega
    exact UInt8.toNat_inj.1 (by simpa using this)
  have hlen : (innL l x z).length = n := by rw [innL_length]; omega
  have cellx : w.cell? ⟨b, m, none⟩ = some (.int .u8 (x.toNat : Int)) := by
    have := hB.getD m (by omega)
    rw [innL_at l x z m hl.symm, Nat.zero_add] at this
    exact this
  have cellz : ∀ i, m < i → i < n → w.cell? ⟨b, i, none⟩ = some (.int .u8 0) := fun i h1 h2 => by
    have := hB.getD i (by omega)
    rw [innL_zero l x z i (by omega) (by omega), Nat.zero_add] at this
    exact this
  have HB := Lib.hid hB
  have HX := Lib.hid hX
  have HL := Lib.hid (And.intro hl (And.intro hn hm))
  have HCX := Lib.hid cellx
  have HCZ := Lib.hid cellz
  have hni : (1 : Int) ≤ n := by omega
  have hmi : (m : Int) < n := by omega
  have hw1 : wrap64 ((n : Int) - 1) = (n : Int) - 1 := wrap64_of _ (by omega) (by omega)
  have hw3 : wrap64 ((n : Int) - 1 - m) = z := by rw [wrap64_of _ (by omega) (by omega)]; omega
  have hw4 : IntKind.u64.wrap (z : Int) = z := wrapu64_of _ (by omega) (by omega)
  clear hB hX hl hm hlen cellx cellz hn
  go_enter Tryd.func44, Tryd.ntmps44
  go_wp2_with fail
  go_loopw [5] (fun iv wr => ∃ i : Nat, m ≤ i ∧ i < n ∧ iv = .int .i64 (i : Nat) ∧ wr = w) (fun iv _ => (intOf iv).toNat)
  case atStart => exact ⟨n - 1, by have := HL.out; omega, by omega, by congr 1; omega, rfl⟩
  case round =>
    obtain ⟨i, hi1, hi2, rfl, rfl⟩ := hrel
    by_cases him : m < i
    · have hw2 : wrap64 ((i : Int) - 1) = (i : Int) - 1 := wrap64_of _ (by omega) (by have := HL.out; omega)
      have c0 := HCZ.out i him hi2
      have hi3 : (i : Int) < n := by omega
      go_wp2_with fail
      go_roundw
      case rel => exact ⟨i - 1, by omega, by omega, by congr 1; omega, trivial⟩
      case measure => simp [intOf]; omega
    · obtain rfl : i = m := by omega
      have c0 := HCX.out
      have hi3 : (i : Int) < n := by omega
      have hi4 : (i : Int) ≤ c := by omega
      have hXw := (HX.out.set_ 2 (.int .u64 z)).set_ 1 (.int .u8 (x.toNat : Int))
      have hXa := hXw.alloc (.cells #[] 5)
      have hBa : Bytes ((((wr.setCell ⟨p, 2, none⟩ (.int .u64 z)).setCell ⟨p, 1, none⟩ (.int .u8 (x.toNat : Int)))).alloc (.cells #[] 5)) b 0 l := by
        have h := (((HB.out.setCell (p := ⟨p, 2, none⟩) (fun e => hpb e.symm) (.int .u64 z)).setCell (p := ⟨p, 1, none⟩) (fun e => hpb e.symm) (.int .u8 (x.toNat : Int))).alloc (by simp; omega) (.cells #[] 5)).take l.length
        rw [innL_take] at h
        exact h
      have hOa : Own ((((wr.setCell ⟨p, 2, none⟩ (.int .u64 z)).setCell ⟨p, 1, none⟩ (.int .u8 (x.toNat : Int)))).alloc (.cells #[] 5)) wr.heap.size 5 wr.heap.size 0 [] := by
        have h := Own.empty ((wr.setCell ⟨p, 2, none⟩ (.int .u64 z)).setCell ⟨p, 1, none⟩ (.int .u8 (x.toNat : Int))) wr.heap.size 5 (by simp)
        simpa using h
      have hgr : wr.grownBy (((wr.setCell ⟨p, 2, none⟩ (.int .u64 z)).setCell ⟨p, 1, none⟩ (.int .u8 (x.toNat : Int))).alloc (.cells #[] 5)) (some p) := by
        refine grown_trans (grown_setCell (grown_setCell (grown_refl wr (some p)) 2 (.int .u64 z)) 1 (.int .u8 (x.toNat : Int))) (grown_below ?_ _)
        exact (Below.refl _ _).alloc (Nat.le_refl _) _
      have HA := Lib.hid (And.intro hXa (And.intro hBa (And.intro hOa hgr)))
      clear hXw hXa hBa hOa hgr
      go_wp2_with (first
        | (at_builtin; refine wpList_append_bytes _ rfl (.tmp 38) (.tmp 41) 68 rfl wr.heap.size 5 Tryd.underlying68 infoU8 wr.heap.size 0 0 [] rfl rfl HA.out.2.2.1 b 0 i c l rfl HL.out.1 HA.out.2.1 (by have := HL.out; omega) (by simp) ?_; intro g cap w2 hown2 hgrow2 hat2; have hX2 := HA.out.1.grown hgrow2 (by simp; omega); have y0 := hX2.at 0 (.slice none 0 0) rfl; have g0 := hX2.frozen 0))
      go_ret
      have hgb := hown2.base_le
      refine ⟨rfl, g, cap, hX2.set_ 0 _, ?_, grown_setCell (grown_new HA.out.2.2.2 hgrow2 (Nat.le_refl _)) 0 _⟩
      exact hown2.bytes.setCell (p := ⟨p, 0, none⟩) (by show g ≠ p; omega) _

set_option maxHeartbeats 4000000 in
set_option maxRecDepth 100000 in
theorem read_ok (x : UInt8) (z : Nat) (l : List UInt8) (r : ByteArray) (w : World) (hr : r = ⟨(innL l x z).toArray⟩) (hl : l.length < 2147483648) (hz : z ≤ 5000) (hx : x ≠ 0) :
    Calls Tryd.prog 16 #[.string r] w fun e w' => e = .returned (.tuple #[.string ⟨l.toArray⟩, .int .u8 (x.toNat : Int), .int .u64 z, .bool true]) ∧ Below w.heap.size w w' := by
  have hrl : r.data.toList = innL l x z := by rw [hr]
  have hsz : r.size = l.length + 1 + z := by rw [← toList_size, hrl, innL_length]
  have hml : r.size ≤ maxLen := by unfold maxLen; omega
  have HR := Lib.hid (And.intro hrl hsz)
  clear hr hrl hsz
  go_enter Tryd.func16, Tryd.ntmps16
  go_wp2_with (first
    | (refine wpList_alloc_blk _ rfl 71 rfl #[.slice none 0 0, .int .u8 0, .int .u64 0] zin ?_; intro w1 hX1 hb1 hz1)
    | (refine wpList_to_bytes _ rfl (.tmp 8) 9 68 5 rfl Tryd.underlying9 Tryd.underlying68 Tryd.underlying5 r rfl hml ?_; intro c w2 hc hc2 hb2 hz2 hB2))
  have hX2 := hX1.below hb2 hz1
  have hb2' : Below w.heap.size w w2 := hb1.trans (hb2.mono (Nat.le_of_lt hz1))
  rw [HR.out.1] at hB2
  refine (unm_ok w.heap.size w1.heap.size r.size c l.length z x l w2 hX2 rfl HR.out.2 hB2 hz2 (by omega) hc (by have := HR.out.2; omega) hx).mono ?_
  rintro e w3 ⟨rfl, k, cap, hX3, hB3, hg3⟩
  have hb3 : Below w.heap.size w w3 := hb2'.trans (below_grown hg3 (by omega))
  have y0 := hX3.at 0 (.slice (some ⟨k, 0, none⟩) l.length cap) rfl
  have y1 := hX3.at 1 (.int .u8 (x.toNat : Int)) rfl
  have y2 := hX3.at 2 (.int .u64 z) rfl
  have HB3 := Lib.hid hB3
  clear hX1 hX2 hX3 hB2 hB3 hg3
  have hcv : (convert 68 9 (.slice (some ⟨k, 0, none⟩) l.length cap)).run Tryd.prog w3.drew = .ok (.string ⟨l.toArray⟩) w3.drew :=
    run_convert_bytes_back (P := Tryd.prog) w3.drew 68 9 5 ⟨k, 0, none⟩ cap l Tryd.underlying68 Tryd.underlying5 Tryd.underlying9 (fun j hj => by rw [add_plain]; exact HB3.out j hj)
  go_wp2_with fail
  go_region
  go_wp2
  refine bodyPost_ret (v := .tuple #[.string ⟨l.toArray⟩, .int .u8 (x.toNat : Int), .int .u64 z, .bool true]) (results_tmp4 (t1 := 2) (t2 := 3) (t3 := 4) (t4 := 5) rfl _ _ _) rfl ⟨rfl, hb3.drew⟩
end Go.Proofs.YtgjlnkciemdklaaDoor.fnInnerBack
