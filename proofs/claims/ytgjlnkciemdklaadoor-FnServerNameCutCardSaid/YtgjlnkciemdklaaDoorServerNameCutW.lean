/-
  THE WALK OF THE LAW FnServerNameCut: the Go text of the law, step by step: it returns true, and what was in memory stays as it was. For every argument of the law's own types.
-/
import Derived.Test.YtgjlnkciemdklaaDoorSnameC
namespace Go.Proofs.YtgjlnkciemdklaaDoor.fnServerNameCut
open Go.ChangeShapes Go.WideShapes Go.ChangeAt Go.RowKit
open Go.ChangeMaps (open_string shut_string)
set_option linter.unusedVariables false
set_option linter.unusedSimpArgs false

set_option maxHeartbeats 8000000 in
set_option maxRecDepth 100000 in
theorem walk (s0 : ByteArray) (w0 : s0.size ≤ maxLen) (n1 : Int) (w1 : (Lit.int .i64 n1).wf = true) (w : World) (e0 : IsErr 206 w 2) (e1 : IsErr 206 w 1) (e2 : IsErr 206 w 13) (e3 : IsErr 206 w 5) :
    Calls Tryd.prog 8 #[.string s0, .int .i64 n1] w fun e w' => e = .returned (.bool true) ∧ Below w.heap.size w w' := by
  clear e3 w1
  by_cases hz : 2147483647 < (s0.size : Int)
  · go_enter Tryd.func8, Tryd.ntmps8
    go_wp2
    go_ret
    exact ⟨rfl, Below.refl _ _⟩
  · by_cases hp0 : 0 < s0.size
    · by_cases h1 : (s0.size : Int) < 60000
      · have hlt : s0.size - 1 < s0.size := by omega
        have hw : wrap64 ((s0.size : Int) - 1) = (s0.size : Int) - 1 := wrap64_of _ (by omega) (by omega)
        by_cases hdot : s0[s0.size - 1]'hlt = 46
        · have hdb : (((s0[s0.size - 1]'hlt).toNat : Int) != 46) = false := by rw [hdot]; rfl
          clear hdot
          go_enter Tryd.func8, Tryd.ntmps8
          go_upto_region 3 with fail
          iterate 18 go_step
          have hp1 : (0 : Int) ≤ (s0.size : Int) - 1 := by omega
          have hp2 : (s0.size : Int) - 1 < s0.size := by omega
          clear hz h1 hp0
          go_wp2_with fail
          go_ret
          exact ⟨rfl, Below.refl _ _⟩
        have hdb : (((s0[s0.size - 1]'hlt).toNat : Int) != 46) = true := by
          have hne : (s0[s0.size - 1]'hlt).toNat ≠ 46 := fun h => hdot (UInt8.toNat_inj.1 (by simpa using h))
          simp
          omega
        have hll := toList_size s0
        have hsl := snL_length s0.data.toList
        have hsz0 := ex_size 0 (snL s0.data.toList)
        have hbl : (snL s0.data.toList).length < 65536 := by omega
        have hcut := fun k => ex_cut 0 (snL s0.data.toList) k (by omega) hbl
        have hV := vec_any s0 2 w (by omega) (by omega)
        have hV2 := fun w1 => snL_vec s0 w1 (by omega)
        have hF : ∀ w1, Calls Tryd.prog 17 #[.int .u16 0, .string ⟨(snL s0.data.toList).toArray⟩] w1 fun e w' => e = .returned (.string (ex 0 (snL s0.data.toList))) ∧ Below w1.heap.size w1 w' := fun w1 => framed_ex 0 (snL s0.data.toList) w1 (by omega) (by omega)
        have hR : ∀ w1, Below w.heap.size w w1 → Calls Tryd.prog 30 #[.string (ex 0 (snL s0.data.toList))] w1 fun e w' => e = .returned (.tuple #[.agg (ext0 0 s0 false 0 false), .bool true]) ∧ Below w1.heap.size w1 w' := fun w1 b => read s0 (ex 0 (snL s0.data.toList)) false w1 rfl (by omega) (by omega) (fun h => by simpa using hdot) (e2.below b e2.lt)
        have HR := Lib.hid hR
        clear hR
        have hsz : ((ex 0 (snL s0.data.toList)).size : Int) = 9 + s0.size ∧ ((ex 0 (snL s0.data.toList)).size : Int) < 65000 := by omega
        rw [hsl, hll] at hsz0
        have h1c := And.intro hsz0 hcut
        rw [hsl, hll] at h1c
        have H1 := Lib.hid h1c
        have HV := Lib.hid hV
        have HV2 := Lib.hid hV2
        have HF := Lib.hid hF
        clear h1c hV hV2 hcut hF hsl hsz0 hll hbl hdot e2
        have ha1 : (⟨(bigL s0.size 2 ++ s0.data.toList).toArray⟩ : ByteArray).size < 4294967296 := by
          rw [← toList_size]
          show (bigL s0.size 2 ++ s0.data.toList).length < 4294967296
          rw [List.length_append, bigL_length, toList_size]
          omega
        generalize (⟨(bigL s0.size 2 ++ s0.data.toList).toArray⟩ : ByteArray) = a1 at *
        generalize (⟨(snL s0.data.toList).toArray⟩ : ByteArray) = a2 at *
        generalize ex 0 (snL s0.data.toList) = r at *
        by_cases hlo : n1 < 1
        · clear H1 hsz
          go_enter Tryd.func8, Tryd.ntmps8
          go_upto_region 3 with fail
          iterate 18 go_step
          have hp1 : (0 : Int) ≤ (s0.size : Int) - 1 := by omega
          have hp2 : (s0.size : Int) - 1 < s0.size := by omega
          clear hz h1 hp0
          go_wp2_with fail
          refine (HV.out).mono ?_
          rintro e wc0 ⟨rfl, hc0⟩
          have hb0 := hc0
          clear hc0
          go_wp2_with fail
          refine (HV2.out _).mono ?_
          rintro e wc1 ⟨rfl, hc1⟩
          have hb1 := hb0.trans (hc1.mono hb0.size)
          clear hc1
          go_wp2_with fail
          refine (HF.out _).mono ?_
          rintro e wc2 ⟨rfl, hc2⟩
          have hb2 := hb1.trans (hc2.mono hb1.size)
          clear hc2
          have hb : Below w.heap.size w wc2 := hb2
          clear hb0 hb1 hb2
          go_wp2_with fail
          go_ret
          exact ⟨rfl, hb⟩
        · by_cases hhi : (r.size : Int) < n1
          · clear H1 hsz
            go_enter Tryd.func8, Tryd.ntmps8
            go_upto_region 3 with fail
            iterate 18 go_step
            have hp1 : (0 : Int) ≤ (s0.size : Int) - 1 := by omega
            have hp2 : (s0.size : Int) - 1 < s0.size := by omega
            clear hz h1 hp0
            go_wp2_with fail
            refine (HV.out).mono ?_
            rintro e wc0 ⟨rfl, hc0⟩
            have hb0 := hc0
            clear hc0
            go_wp2_with fail
            refine (HV2.out _).mono ?_
            rintro e wc1 ⟨rfl, hc1⟩
            have hb1 := hb0.trans (hc1.mono hb0.size)
            clear hc1
            go_wp2_with fail
            refine (HF.out _).mono ?_
            rintro e wc2 ⟨rfl, hc2⟩
            have hb2 := hb1.trans (hc2.mono hb1.size)
            clear hc2
            have hb : Below w.heap.size w wc2 := hb2
            clear hb0 hb1 hb2
            go_wp2_with fail
            go_ret
            exact ⟨rfl, hb⟩
          · obtain ⟨k, rfl⟩ := Int.eq_ofNat_of_zero_le (show 0 ≤ n1 by omega)
            have HZ := Lib.hid hsz
            have hkr : k ≤ r.size := by omega
            have hk1 : 1 ≤ k := by omega
            clear hsz
            go_enter Tryd.func8, Tryd.ntmps8
            go_upto_region 3 with fail
            iterate 18 go_step
            have hp1 : (0 : Int) ≤ (s0.size : Int) - 1 := by omega
            have hp2 : (s0.size : Int) - 1 < s0.size := by omega
            clear hz h1 hp0
            go_wp2_with fail
            refine (HV.out).mono ?_
            rintro e wc0 ⟨rfl, hc0⟩
            have hb0 := hc0
            clear hc0
            go_wp2_with fail
            refine (HV2.out _).mono ?_
            rintro e wc1 ⟨rfl, hc1⟩
            have hb1 := hb0.trans (hc1.mono hb0.size)
            clear hc1
            go_wp2_with fail
            refine (HF.out _).mono ?_
            rintro e wc2 ⟨rfl, hc2⟩
            have hb2 := hb1.trans (hc2.mono hb1.size)
            clear hc2
            have hb : Below w.heap.size w wc2 := hb2
            clear hb0 hb1 hb2
            go_wp2_with fail
            have HR0 := HR.out wc2 hb
            refine HR0.mono ?_
            clear HR0
            rintro e w3 ⟨rfl, hb3⟩
            change Below wc2.heap.size wc2 w3 at hb3
            have hb3' := hb.trans (hb3.mono hb.size)
            clear hb3 hb
            have hwk : wrap64 ((r.size : Int) - k) = (r.size : Int) - k := wrap64_of _ (by omega) (by have := HZ.out; omega)
            go_wp2_with (first
              | (refine wpList_alloc_blk _ rfl 39 rfl zeroExt zext ?_; intro w4 hG4 hb4 hz4)
              | (refine wpList_store_blk _ rfl 39 (.tmp 6) (.tmp 46) rfl w3.heap.size 39 zeroExt (ext0 0 s0 false 0 false) rfl rfl hG4 sext rfl (ext0_one _ _ _ _ _) ?_; intro w5 hG5 hg5))
            have hb5 : Below w.heap.size w w5 := hb3'.trans ((hb4.mono hb3'.size).trans (below_grown hg5 (Nat.le_of_lt hz4) |>.mono hb3'.size))
            have hcs := cut_size r (r.size - k) (by omega)
            have hno := H1.out.2 (r.size - k) (by have := H1.out.1; omega)
            refine (read_no _ w5 (by have := HZ.out; omega) hno (e1.below hb5 e1.lt) (e0.below hb5 e0.lt)).mono ?_
            rintro e w6 ⟨rfl, hb6⟩
            have hb6' := hb5.trans (hb6.mono hb5.size)
            clear hcs hno
            go_wp2_with (first
              | (refine wpList_alloc_blk _ rfl 39 rfl zeroExt zext ?_; intro w7 hG7 hb7 hz7)
              | (refine wpList_store_blk _ rfl 39 (.tmp 8) (.tmp 56) rfl w6.heap.size 39 zeroExt zeroExt rfl rfl hG7 sext rfl (ext0_one _ _ _ _ _) ?_; intro w8 hG8 hg8))
            go_ret
            exact ⟨rfl, hb6'.trans ((hb7.mono hb6'.size).trans ((below_grown hg8 (Nat.le_of_lt hz7)).mono hb6'.size))⟩
      · clear e0 e1 e2
        go_enter Tryd.func8, Tryd.ntmps8
        go_wp2
        go_ret
        exact ⟨rfl, Below.refl _ _⟩
    · go_enter Tryd.func8, Tryd.ntmps8
      go_wp2
      go_ret
      exact ⟨rfl, Below.refl _ _⟩
end Go.Proofs.YtgjlnkciemdklaaDoor.fnServerNameCut
