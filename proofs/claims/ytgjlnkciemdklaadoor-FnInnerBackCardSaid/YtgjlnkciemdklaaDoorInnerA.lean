/-
  CONTRACTS of InnerPlaintext's Marshal and Unmarshal, of InnerWrite and InnerRead. Condition: content below 2147483648 bytes, at most 5000 zeros, the kind not 0 where it is read.
-/
import Derived.Test.YtgjlnkciemdklaaDoorBld
import Derived.Test.YtgjlnkciemdklaaDoorText
import Derived.Maps.RangeWalk
namespace Go.Proofs.YtgjlnkciemdklaaDoor.fnInnerBack
open Go.ChangeShapes Go.WideShapes Go.ChangeAt Go.RowKit
set_option linter.unusedVariables false
set_option linter.unusedSimpArgs false

def innL (l : List UInt8) (x : UInt8) (z : Nat) : List UInt8 := l ++ [x] ++ List.replicate z 0
theorem innL_length (l : List UInt8) (x : UInt8) (z : Nat) : (innL l x z).length = l.length + 1 + z := by simp [innL]; omega

def MarOk (l : List UInt8) (n : Nat) (w w' : World) (e : Ending) : Prop :=
  ∃ k cap, e = .returned (.tuple #[.slice (some ⟨k, 0, none⟩) n cap, .nilIface]) ∧ Bytes w' k 0 l ∧ Below w.heap.size w w'

theorem zbld : (Tryd.prog.info? 149).map (·.zero) = some (some (.agg (bldC (.slice none 0 0) 0 0 (.pointer none)))) := by kernel_rfl

set_option maxHeartbeats 4000000 in
set_option maxRecDepth 100000 in
theorem mar_ok (p b n c z : Nat) (x : UInt8) (l : List UInt8) (w : World) (hX : Blk w p 71 #[.slice (some ⟨b, 0, none⟩) n c, .int .u8 (x.toNat : Int), .int .u64 z]) (hl : l.length = n) (hB : Bytes w b 0 l) (hb : b < w.heap.size) (hn : n < 2147483648) (hz : z ≤ 5000) :
    Calls Tryd.prog 43 #[.pointer (some ⟨p, 0, none⟩)] w fun e w' => MarOk (innL l x z) (n + 1 + z) w w' e := by
  have hp := hX.lt
  have HL := Lib.hid hl
  have HB := Lib.hid hB
  have HX := Lib.hid hX
  clear hl hB hX
  go_enter Tryd.func43, Tryd.ntmps43
  go_wp2_with (first
    | (refine wpList_alloc_blk _ rfl 149 rfl (bldC (.slice none 0 0) 0 0 (.pointer none)) zbld ?_; intro w1 hD1 hb1 hz1; have x1 := (HX.out.below hb1 hp).at 0 (.slice (some ⟨b, 0, none⟩) n c) rfl))
  have hBl : Bld w1 w.heap.size w.heap.size 0 0 (.pointer none) [] := ⟨_, hD1, OwnV.nil _ _, by simp [Value.ownBlock]⟩
  refine (addbytes_ok w.heap.size w.heap.size 0 0 (.pointer none) [] b 0 n c l w1 hBl (Nat.le_refl _) HL.out (HB.out.below hb1 hb) (by simp; omega)).mono ?_
  rintro e w2 ⟨rfl, hBl2, hb2⟩
  rw [List.nil_append] at hBl2
  have hb2' : Below w.heap.size w w2 := hb1.trans hb2
  have x2 := (HX.out.below hb2' hp).at 1 (.int .u8 (x.toNat : Int)) rfl
  have HBl2 := Lib.hid (And.intro hBl2 hb2')
  clear hD1 hBl hBl2 hb2 hb2' hb1 x1
  go_wp2_with fail
  refine (adduint8_ok w.heap.size w.heap.size 0 0 (.pointer none) l x w2 HBl2.out.1 (Nat.le_refl _) (by have := HL.out; omega)).mono ?_
  rintro e w3 ⟨rfl, hBl3, hb3⟩
  have hb3' : Below w.heap.size w w3 := HBl2.out.2.trans hb3
  have x3 := (HX.out.below hb3' hp).at 2 (.int .u64 z) rfl
  have hs3 := hb3'.size
  have HBl3 := Lib.hid (And.intro hBl3 hb3')
  clear hBl3 hb3 hb3' x2
  go_wp2_with (first
    | (refine wpList_make_bytes _ rfl (.tmp 18) (.tmp 18) 68 rfl w3.heap.size 5 Tryd.underlying68 infoU8 .u64 .u64 z z z rfl rfl rfl rfl (by omega) (Nat.le_refl _) ?_; intro w4 hG4 hb4 hz4))
  have hB4 := hG4.bytes
  have hBl4 : Bld w4 w.heap.size w.heap.size 0 0 (.pointer none) (l ++ [x]) := HBl3.out.1.below hb4 (Nat.le_refl _)
  have hb4' : Below w.heap.size w w4 := HBl3.out.2.trans (hb4.mono hs3)
  refine (addbytes_ok w.heap.size w.heap.size 0 0 (.pointer none) (l ++ [x]) w3.heap.size 0 z z (List.replicate z 0) w4 hBl4 (Nat.le_refl _) (by simp) hB4 (by have := HL.out; simp; omega)).mono ?_
  rintro e w5 ⟨rfl, hBl5, hb5⟩
  have HB5 := Lib.hid (And.intro hBl5 (hb4'.trans hb5))
  clear hBl4 hb4' hB4 hG4 hb4 hBl5 hb5 x3
  go_wp2_with fail
  refine (bytes_ok w.heap.size w.heap.size 0 (.pointer none) (innL l x z) w5 HB5.out.1 (by rw [innL_length]; omega) (by rw [innL_length]; have := HL.out; omega)).mono ?_
  rintro e w6 ⟨k, cap, rfl, hBy, hk, hk2, hb6⟩
  have hlen := innL_length l x z
  rw [HL.out] at hlen
  rw [hlen]
  go_wp2_with fail
  go_ret2
  exact ⟨k, cap, rfl, hBy, HB5.out.2.trans (hb6.mono HB5.out.2.size)⟩

theorem buildIn (a : Option Addr) (n c : Nat) (x z : Int) (w : World) : (Instr.build 71 #[(0, .slice a n c), (1, .int .u8 x), (2, .int .u64 z)]).run Tryd.prog w = .ok (.agg #[.slice a n c, .int .u8 x, .int .u64 z]) w := by kernel_rfl
theorem zin : (Tryd.prog.info? 71).map (·.zero) = some (some (.agg #[.slice none 0 0, .int .u8 0, .int .u64 0])) := by kernel_rfl
theorem sin : (Tryd.prog.info? 71).map (·.size) = some 3 := by kernel_rfl

set_option maxHeartbeats 4000000 in
set_option maxRecDepth 100000 in
theorem write_ok (s : ByteArray) (x : UInt8) (z : Nat) (w : World) (hn : s.size < 2147483648) (hz : z ≤ 5000) :
    Calls Tryd.prog 15 #[.string s, .int .u8 (x.toNat : Int), .int .u64 z] w fun e w' => e = .returned (.tuple #[.string ⟨(innL s.data.toList x z).toArray⟩, .bool true]) ∧ Below w.heap.size w w' := by
  have hml : s.size ≤ maxLen := by unfold maxLen; omega
  have hll := toList_size s
  go_enter Tryd.func15, Tryd.ntmps15
  go_wp2_with (first
    | (refine wpList_to_bytes _ rfl (.tmp 9) 9 68 5 rfl Tryd.underlying9 Tryd.underlying68 Tryd.underlying5 s rfl hml ?_; intro c w1 hc hc2 hb1 hz1 hB1)
    | (refine wpList_build _ rfl 71 #[(0, .tmp 10), (1, .tmp 11), (2, .tmp 12)] rfl #[(0, .slice (some ⟨w.heap.size, 0, none⟩) s.size c), (1, .int .u8 (x.toNat : Int)), (2, .int .u64 z)] rfl _ (buildIn _ _ _ _ _ _) ?_)
    | (refine wpList_alloc_blk _ rfl 71 rfl #[.slice none 0 0, .int .u8 0, .int .u64 0] zin ?_; intro w2 hX2 hb2 hz2)
    | (refine wpList_store_blk _ rfl 71 (.tmp 8) (.tmp 13) rfl w1.heap.size 71 #[.slice none 0 0, .int .u8 0, .int .u64 0] #[.slice (some ⟨w.heap.size, 0, none⟩) s.size c, .int .u8 (x.toNat : Int), .int .u64 z] rfl rfl hX2 sin rfl (by simp [Value.oneCell']) ?_; intro w3 hX3 hg3))
  have hB3 : Bytes w3 w.heap.size 0 s.data.toList := (hB1.below hb2 hz1).grown hg3 (by omega) (by simp; omega)
  have hb3 : Below w.heap.size w w3 := hb1.trans ((hb2.mono (Nat.le_of_lt hz1)).trans ((below_grown hg3 (Nat.le_of_lt hz2)).mono (Nat.le_of_lt hz1)))
  have hs3 := hg3.size
  refine (mar_ok w1.heap.size w.heap.size s.size c z x s.data.toList w3 hX3 hll hB3 (by omega) hn hz).mono ?_
  rintro e w4 ⟨k, cap, rfl, hB4, hb4⟩
  have hb4' := hb3.trans (hb4.mono hb3.size)
  clear hX2 hX3 hB3 hB1 hg3 hb4
  go_wp2_with fail
  refine (text_ok k 0 (s.size + 1 + z) cap (innL s.data.toList x z) w4 (by rw [innL_length, hll]) hB4).mono ?_
  rintro e w5 ⟨rfl, rfl⟩
  go_wp2_with fail
  go_ret2
  exact ⟨rfl, hb4'⟩
end Go.Proofs.YtgjlnkciemdklaaDoor.fnInnerBack
