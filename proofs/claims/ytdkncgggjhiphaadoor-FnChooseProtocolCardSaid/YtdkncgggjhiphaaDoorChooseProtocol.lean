/-
  WHAT IS PROVED: the law FnChooseProtocol of the given program returns true for every input and leaves its arguments as they were. Conditions: none beyond the row's own.
-/
import Derived.Test.YtdkncgggjhiphaaDoorCards
import Derived.Test.YtdkncgggjhiphaaDoorTie
import Derived.Test.YtdkncgggjhiphaaDoorLaid
import Derived.Test.YtdkncgggjhiphaaDoorChooseProtocolW
namespace Go.Proofs.YtdkncgggjhiphaaDoor.fnChooseProtocol
open Go.ChangeShapes Go.WideShapes Go.ChangeAt Go.RowKit
open Go.ChangeMaps (open_string shut_string)
set_option linter.unusedVariables false

/-! ### The frame: from the walk to the statement -/
set_option maxRecDepth 100000 in
theorem lifted (os : Os) (started : os.Started) (H : Type) (enc : TypeId × Value → H) :
    ReturnsInHanded {} Tryd.checked os 5 .any (fun w args => (Rows.fnChooseProtocolSpec.pre enc Tryd.prog Tryd.f5 [] false w args ∧ laidMetH Tryd.prog Rows.fnChooseProtocolRow.laid w) ∧ sizedMet enc Tryd.prog Tryd.f5 (OpenSpec.ofChange Rows.fnChooseProtocolSpec) false w args)
      (Rows.fnChooseProtocolSpec.post enc Tryd.prog Tryd.f5 false true false false) := by
  refine returnsInHanded_of_change_and (C := Tryd.checked) (X := fun w _ => laidMetH Tryd.prog Rows.fnChooseProtocolRow.laid w) (fun _ _ _ hh h => h.of_heap hh) own started (by kernel_rfl) Tryd.func5
    (ChangeSpec.witness_shaped (enc := enc) (C := Tryd.checked) (os := os) (X := fun w _ => laidMetH Tryd.prog Rows.fnChooseProtocolRow.laid w) false (World.doorLaid Tryd.prog 400 os) #[.slice none 0 0, .slice none 0 0] 8 rfl (World.shaped_of_RefB (by kernel_rfl) (by kernel_rfl)) (by kernel_rfl) (by kernel_rfl) (by kernel_rfl)
      (laidMetH_of_parts3 (fuel := 8) (laidMet_of_run' 8 (by kernel_rfl) (by kernel_rfl)) (by kernel_rfl) (by kernel_rfl))) ?_
  intro W base args ds gs before hval0 hW _ _ hL _
  have hval : ∀ (j : Nat) t v, Tryd.f5.params[j]? = some t → args[j]? = some v → Value.okWide Tryd.prog W .any base t v := hval0
  have hW' := hW
  obtain ⟨p, q, hA0, hV, rfl, hfz, hnd⟩ := hW
  have hA : DataW.TrodAll enc Tryd.prog W 0 (fun _ => true) true Tryd.f5.params.toList args.toList ds p := hA0
  rw [Tryd.params5] at hA hval
  obtain ⟨v0, vs0, d0, ds0, p0, q0, hargs, rfl, rfl, h0, r0⟩ := trodAll_cons hA
  obtain ⟨v1, vs1, d1, ds1, p1, q1, rfl, rfl, rfl, h1, r1⟩ := trodAll_cons r0
  obtain ⟨rfl, rfl, rfl⟩ := trodAll_nil r1
  obtain rfl : args = #[v0, v1] := by cases args; simp_all
  obtain ⟨rfl, rfl⟩ := trodVars_none hV
  have kA := hA0
  have ltA := hA0.lt
  obtain ⟨a0, len0, cap0, rfl⟩ := okWide_slice Tryd.underlying30 (hval 0 30 v0 rfl rfl)
  obtain ⟨z0, w0⟩ := open_strs' Tryd.underlying30 Tryd.underlying9 (by kernel_rfl) h0
  obtain ⟨a1, len1, cap1, rfl⟩ := okWide_slice Tryd.underlying30 (hval 1 30 v1 rfl rfl)
  obtain ⟨z1, w1⟩ := open_strs' Tryd.underlying30 Tryd.underlying9 (by kernel_rfl) h1
  have hL0 : laidMetH Tryd.prog Rows.fnChooseProtocolRow.laid W := hL
  rw [MakeChecks.laidMetH_plain _ _ _ (by kernel_rfl)] at hL0
  have e0 : IsErr 155 W 2 := laid_err hL0 (by kernel_rfl : Tryd.prog.globalNamed "pub-convoy/pub/dtls/pkg/protocol/extension.errALPNNoAppProto" = some 2) (by kernel_rfl : (Tryd.prog.globals[2]?).map (·.type) = some 75) Tryd.underlying75 rowErr Tryd.underlying155 Tryd.underlying180 rfl rfl Tryd.underlying9 (by kernel_rfl) (by kernel_rfl)
  clear hA0 hval0
  refine (walk W a0 len0 cap0 z0 w0 a1 len1 cap1 z1 w1 e0).mono fun e W' ⟨he, bel⟩ => ?_
  subst he
  exact ⟨_, rfl, _, _, _, [], _, [], hW', trodAll_mk1 (shut_bool Tryd.underlying4 _), trodAll_below laidOut bel (by kernel_rfl) kA ltA, rfl, bel.frame _, fun h => by cases h⟩

theorem said : Rows.FnChooseProtocolSaid :=
  OpenClaim.holds_of_wide 5 Tryd.f5 rfl rfl rfl rfl rfl rfl rfl ⟨rfl, rfl, rfl, rfl, rfl⟩ rfl rfl rfl rfl rfl (by kernel_rfl) Tryd.func5 (by kernel_rfl)
    (of_decide_eq_true (by kernel_rfl)) (by unfold Func.isWrapper; first | (rw [if_pos (by decide +kernel)]; kernel_rfl) | (rw [if_neg (by decide +kernel)]; exact ⟨rfl, rfl⟩))
    (fun os started H enc _ => lifted os started H enc)
theorem plain (f : FuncId) (fn : Func) (hf : Tryd.pinned.checked.prog.funcNamed "pub-convoy/laws.FnChooseProtocol" = some f) (hfn : Tryd.pinned.checked.prog.funcs[f]? = some fn) :
    false = Tryd.pinned.checked.prog.looks [] ∧ ∀ (j : Nat) t, fn.params[j]? = some t → Tryd.pinned.checked.prog.wantsStandIn t = false := by
  obtain rfl : f = 5 := Option.some.inj ((show Tryd.prog.funcNamed "pub-convoy/laws.FnChooseProtocol" = some 5 by kernel_rfl).symm.trans hf) |>.symm
  obtain rfl : fn = Tryd.f5 := (Option.some.inj (Tryd.func5.symm.trans hfn)).symm
  refine ⟨by kernel_rfl, fun j t ht => ?_⟩
  rw [Tryd.params5] at ht
  have hm : t ∈ [30, 30] := by simpa using Array.mem_of_getElem? ht
  have hall : ([30, 30].all fun u => !Tryd.prog.wantsStandIn u) = true := by kernel_rfl
  exact (show Tryd.prog.wantsStandIn t = false by simpa using List.all_eq_true.1 hall t hm)
theorem card : Rows.FnChooseProtocolCardSaid :=
  Claim7.holds_tied_plain_at .later [] _ _ _ _ said (fun _ h => by cases h) (by kernel_rfl) (fun _ h => by cases h) fnChooseProtocol_row_tie rfl ⟨rfl, rfl⟩ (by kernel_rfl) rfl plain (by kernel_rfl)
#print axioms card
end Go.Proofs.YtdkncgggjhiphaaDoor.fnChooseProtocol
