/-
  WHAT IS PROVED: the law FnRenegotiationBack of the given program returns true for every input and leaves its arguments as they were. Conditions: none beyond the row's own.
-/
import Derived.Test.YtdkncgggjhiphaaDoorCards
import Derived.Test.YtdkncgggjhiphaaDoorTie
import Derived.Test.YtdkncgggjhiphaaDoorLaid
import Derived.Test.YtdkncgggjhiphaaDoorRenegotiationBackW
namespace Go.Proofs.YtdkncgggjhiphaaDoor.fnRenegotiationBack
open Go.ChangeShapes Go.WideShapes Go.ChangeAt Go.RowKit
open Go.ChangeMaps (open_string shut_string)
set_option linter.unusedVariables false

/-! ### The frame: from the walk to the statement -/
set_option maxRecDepth 100000 in
theorem lifted (os : Os) (started : os.Started) (H : Type) (enc : TypeId × Value → H) :
    ReturnsInHanded {} Tryd.checked os 6 .any (fun w args => (Rows.fnRenegotiationBackSpec.pre enc Tryd.prog Tryd.f6 [] false w args ∧ laidMetH Tryd.prog Rows.fnRenegotiationBackRow.laid w) ∧ sizedMet enc Tryd.prog Tryd.f6 (OpenSpec.ofChange Rows.fnRenegotiationBackSpec) false w args)
      (Rows.fnRenegotiationBackSpec.post enc Tryd.prog Tryd.f6 false true false false) := by
  refine returnsInHanded_of_change_and (C := Tryd.checked) (X := fun w _ => laidMetH Tryd.prog Rows.fnRenegotiationBackRow.laid w) (fun _ _ _ hh h => h.of_heap hh) own started (by kernel_rfl) Tryd.func6
    (ChangeSpec.witness_shaped (enc := enc) (C := Tryd.checked) (os := os) (X := fun w _ => laidMetH Tryd.prog Rows.fnRenegotiationBackRow.laid w) false (World.doorLaid Tryd.prog 400 os) #[.int .u8 0] 8 rfl (World.shaped_of_RefB (by kernel_rfl) (by kernel_rfl)) (by kernel_rfl) (by kernel_rfl) (by kernel_rfl)
      (laidMetH_of_parts3 (fuel := 8) (laidMet_of_run' 8 (by kernel_rfl) (by kernel_rfl)) (by kernel_rfl) (by kernel_rfl))) ?_
  intro W base args ds gs before hval0 hW _ _ hL _
  have hval : ∀ (j : Nat) t v, Tryd.f6.params[j]? = some t → args[j]? = some v → Value.okWide Tryd.prog W .any base t v := hval0
  have hW' := hW
  obtain ⟨p, q, hA0, hV, rfl, hfz, hnd⟩ := hW
  have hA : DataW.TrodAll enc Tryd.prog W 0 (fun _ => true) true Tryd.f6.params.toList args.toList ds p := hA0
  rw [Tryd.params6] at hA hval
  obtain ⟨v0, vs0, d0, ds0, p0, q0, hargs, rfl, rfl, h0, r0⟩ := trodAll_cons hA
  obtain ⟨rfl, rfl, rfl⟩ := trodAll_nil r0
  obtain rfl : args = #[v0] := by cases args; simp_all
  obtain ⟨rfl, rfl⟩ := trodVars_none hV
  have kA := hA0
  have ltA := hA0.lt
  obtain ⟨n0, rfl, rfl, rfl, w0⟩ := open_int Tryd.underlying5 (hval 0 5 v0 rfl rfl) h0
  have hL0 : laidMetH Tryd.prog Rows.fnRenegotiationBackRow.laid W := hL
  rw [MakeChecks.laidMetH_plain _ _ _ (by kernel_rfl)] at hL0
  have e0 : IsErr 155 W 3 := laid_err hL0 (by kernel_rfl : Tryd.prog.globalNamed "pub-convoy/pub/dtls/pkg/protocol/extension.errBufferTooSmall" = some 3) (by kernel_rfl : (Tryd.prog.globals[3]?).map (·.type) = some 75) Tryd.underlying75 rowErr Tryd.underlying155 Tryd.underlying180 rfl rfl Tryd.underlying9 (by kernel_rfl) (by kernel_rfl)
  have hL1 := hL0.tail
  have e1 : IsErr 155 W 5 := laid_err hL1 (by kernel_rfl : Tryd.prog.globalNamed "pub-convoy/pub/dtls/pkg/protocol/extension.errInvalidExtensionType" = some 5) (by kernel_rfl : (Tryd.prog.globals[5]?).map (·.type) = some 75) Tryd.underlying75 rowErr Tryd.underlying155 Tryd.underlying180 rfl rfl Tryd.underlying9 (by kernel_rfl) (by kernel_rfl)
  have hL2 := hL1.tail
  have e2 : IsErr 155 W 6 := laid_err hL2 (by kernel_rfl : Tryd.prog.globalNamed "pub-convoy/pub/dtls/pkg/protocol/extension.errLengthMismatch" = some 6) (by kernel_rfl : (Tryd.prog.globals[6]?).map (·.type) = some 75) Tryd.underlying75 rowErr Tryd.underlying155 Tryd.underlying180 rfl rfl Tryd.underlying9 (by kernel_rfl) (by kernel_rfl)
  clear hA0 hval0
  refine (walk n0 w0 W e0 e1 e2).mono fun e W' ⟨he, bel⟩ => ?_
  subst he
  exact ⟨_, rfl, _, _, _, [], _, [], hW', trodAll_mk1 (shut_bool Tryd.underlying4 _), trodAll_below laidOut bel (by kernel_rfl) kA ltA, rfl, bel.frame _, fun h => by cases h⟩

theorem said : Rows.FnRenegotiationBackSaid :=
  OpenClaim.holds_of_wide 6 Tryd.f6 rfl rfl rfl rfl rfl rfl rfl ⟨rfl, rfl, rfl, rfl, rfl⟩ rfl rfl rfl rfl rfl (by kernel_rfl) Tryd.func6 (by kernel_rfl)
    (of_decide_eq_true (by kernel_rfl)) (by unfold Func.isWrapper; first | (rw [if_pos (by decide +kernel)]; kernel_rfl) | (rw [if_neg (by decide +kernel)]; exact ⟨rfl, rfl⟩))
    (fun os started H enc _ => lifted os started H enc)
theorem plain (f : FuncId) (fn : Func) (hf : Tryd.pinned.checked.prog.funcNamed "pub-convoy/laws.FnRenegotiationBack" = some f) (hfn : Tryd.pinned.checked.prog.funcs[f]? = some fn) :
    false = Tryd.pinned.checked.prog.looks [] ∧ ∀ (j : Nat) t, fn.params[j]? = some t → Tryd.pinned.checked.prog.wantsStandIn t = false := by
  obtain rfl : f = 6 := Option.some.inj ((show Tryd.prog.funcNamed "pub-convoy/laws.FnRenegotiationBack" = some 6 by kernel_rfl).symm.trans hf) |>.symm
  obtain rfl : fn = Tryd.f6 := (Option.some.inj (Tryd.func6.symm.trans hfn)).symm
  refine ⟨by kernel_rfl, fun j t ht => ?_⟩
  rw [Tryd.params6] at ht
  have hm : t ∈ [5] := by simpa using Array.mem_of_getElem? ht
  have hall : ([5].all fun u => !Tryd.prog.wantsStandIn u) = true := by kernel_rfl
  exact (show Tryd.prog.wantsStandIn t = false by simpa using List.all_eq_true.1 hall t hm)
theorem card : Rows.FnRenegotiationBackCardSaid :=
  Claim7.holds_tied_plain_at .later [] _ _ _ _ said (fun _ h => by cases h) (by kernel_rfl) (fun _ h => by cases h) fnRenegotiationBack_row_tie rfl ⟨rfl, rfl⟩ (by kernel_rfl) rfl plain (by kernel_rfl)
#print axioms card
end Go.Proofs.YtdkncgggjhiphaaDoor.fnRenegotiationBack
