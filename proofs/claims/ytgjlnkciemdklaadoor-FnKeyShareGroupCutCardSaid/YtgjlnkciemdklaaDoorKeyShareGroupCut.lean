/-
  WHAT IS PROVED: the law FnKeyShareGroupCut of the given program returns true for every input and leaves its arguments as they were. Conditions: none beyond the row's own.
-/
import Derived.Test.YtgjlnkciemdklaaDoorCards
import Derived.Test.YtgjlnkciemdklaaDoorTie
import Derived.Test.YtgjlnkciemdklaaDoorLaid
import Derived.Test.YtgjlnkciemdklaaDoorKeyShareGroupCutW
namespace Go.Proofs.YtgjlnkciemdklaaDoor.fnKeyShareGroupCut
open Go.ChangeShapes Go.WideShapes Go.ChangeAt Go.RowKit
open Go.ChangeMaps (open_string shut_string)
set_option linter.unusedVariables false

/-! ### The frame: from the walk to the statement -/
set_option maxRecDepth 100000 in
theorem lifted (os : Os) (started : os.Started) (H : Type) (enc : TypeId × Value → H) :
    ReturnsInHanded {} Tryd.checked os 11 .any (fun w args => (Rows.fnKeyShareGroupCutSpec.pre enc Tryd.prog Tryd.f11 [] false w args ∧ laidMetH Tryd.prog Rows.fnKeyShareGroupCutRow.laid w) ∧ sizedMet enc Tryd.prog Tryd.f11 (OpenSpec.ofChange Rows.fnKeyShareGroupCutSpec) false w args)
      (Rows.fnKeyShareGroupCutSpec.post enc Tryd.prog Tryd.f11 false true false false) := by
  refine returnsInHanded_of_change_and (C := Tryd.checked) (X := fun w _ => laidMetH Tryd.prog Rows.fnKeyShareGroupCutRow.laid w) (fun _ _ _ hh h => h.of_heap hh) own started (by kernel_rfl) Tryd.func11
    (ChangeSpec.witness_shaped (enc := enc) (C := Tryd.checked) (os := os) (X := fun w _ => laidMetH Tryd.prog Rows.fnKeyShareGroupCutRow.laid w) false (World.doorLaid Tryd.prog 400 os) #[.int .u16 0, .int .i64 0] 8 rfl (World.shaped_of_RefB (by kernel_rfl) (by kernel_rfl)) (by kernel_rfl) (by kernel_rfl) (by kernel_rfl)
      (laidMetH_of_parts3 (fuel := 8) (laidMet_of_run' 8 (by kernel_rfl) (by kernel_rfl)) (by kernel_rfl) (by kernel_rfl))) ?_
  intro W base args ds gs before hval0 hW _ _ hL _
  have hval : ∀ (j : Nat) t v, Tryd.f11.params[j]? = some t → args[j]? = some v → Value.okWide Tryd.prog W .any base t v := hval0
  have hW' := hW
  obtain ⟨p, q, hA0, hV, rfl, hfz, hnd⟩ := hW
  have hA : DataW.TrodAll enc Tryd.prog W 0 (fun _ => true) true Tryd.f11.params.toList args.toList ds p := hA0
  rw [Tryd.params11] at hA hval
  obtain ⟨v0, vs0, d0, ds0, p0, q0, hargs, rfl, rfl, h0, r0⟩ := trodAll_cons hA
  obtain ⟨v1, vs1, d1, ds1, p1, q1, rfl, rfl, rfl, h1, r1⟩ := trodAll_cons r0
  obtain ⟨rfl, rfl, rfl⟩ := trodAll_nil r1
  obtain rfl : args = #[v0, v1] := by cases args; simp_all
  obtain ⟨rfl, rfl⟩ := trodVars_none hV
  have kA := hA0
  have ltA := hA0.lt
  obtain ⟨n0, rfl, rfl, rfl, w0⟩ := open_int Tryd.underlying30 (hval 0 30 v0 rfl rfl) h0
  obtain ⟨n1, rfl, rfl, rfl, w1⟩ := open_int Tryd.underlying3 (hval 1 3 v1 rfl rfl) h1
  have hL0 : laidMetH Tryd.prog Rows.fnKeyShareGroupCutRow.laid W := hL
  rw [MakeChecks.laidMetH_plain _ _ _ (by kernel_rfl)] at hL0
  have e0 : IsErr 206 W 2 := laid_err hL0 (by kernel_rfl : Tryd.prog.globalNamed "pub-convoy/pub/dtls/pkg/protocol/extension.errBufferTooSmall" = some 2) (by kernel_rfl : (Tryd.prog.globals[2]?).map (·.type) = some 74) Tryd.underlying74 rowErr Tryd.underlying206 Tryd.underlying208 rfl rfl Tryd.underlying9 (by kernel_rfl) (by kernel_rfl)
  have hL1 := hL0.tail
  have e1 : IsErr 206 W 1 := laid_err hL1 (by kernel_rfl : Tryd.prog.globalNamed "pub-convoy/pub/dtls/pkg/protocol/extension.errInvalidExtensionType" = some 1) (by kernel_rfl : (Tryd.prog.globals[1]?).map (·.type) = some 74) Tryd.underlying74 rowErr Tryd.underlying206 Tryd.underlying208 rfl rfl Tryd.underlying9 (by kernel_rfl) (by kernel_rfl)
  have hL2 := hL1.tail
  have e2 : IsErr 206 W 15 := laid_err hL2 (by kernel_rfl : Tryd.prog.globalNamed "pub-convoy/pub/dtls/pkg/protocol/extension.errInvalidKeyShareFormat" = some 15) (by kernel_rfl : (Tryd.prog.globals[15]?).map (·.type) = some 74) Tryd.underlying74 rowErr Tryd.underlying206 Tryd.underlying208 rfl rfl Tryd.underlying9 (by kernel_rfl) (by kernel_rfl)
  have hL3 := hL2.tail
  have e3 : IsErr 206 W 16 := laid_err hL3 (by kernel_rfl : Tryd.prog.globalNamed "pub-convoy/pub/dtls/pkg/protocol/extension.errDuplicateKeyShare" = some 16) (by kernel_rfl : (Tryd.prog.globals[16]?).map (·.type) = some 74) Tryd.underlying74 rowErr Tryd.underlying206 Tryd.underlying208 rfl rfl Tryd.underlying9 (by kernel_rfl) (by kernel_rfl)
  clear hA0 hval0
  refine (walk n0 w0 n1 w1 W e0 e1 e2 e3).mono fun e W' ⟨he, bel⟩ => ?_
  subst he
  exact ⟨_, rfl, _, _, _, [], _, [], hW', trodAll_mk1 (shut_bool Tryd.underlying4 _), trodAll_below laidOut bel (by kernel_rfl) kA ltA, rfl, bel.frame _, fun h => by cases h⟩

theorem said : Rows.FnKeyShareGroupCutSaid :=
  OpenClaim.holds_of_wide 11 Tryd.f11 rfl rfl rfl rfl rfl rfl rfl ⟨rfl, rfl, rfl, rfl, rfl⟩ rfl rfl rfl rfl rfl (by kernel_rfl) Tryd.func11 (by kernel_rfl)
    (of_decide_eq_true (by kernel_rfl)) (by unfold Func.isWrapper; first | (rw [if_pos (by decide +kernel)]; kernel_rfl) | (rw [if_neg (by decide +kernel)]; exact ⟨rfl, rfl⟩))
    (fun os started H enc _ => lifted os started H enc)
theorem plain (f : FuncId) (fn : Func) (hf : Tryd.pinned.checked.prog.funcNamed "pub-convoy/laws.FnKeyShareGroupCut" = some f) (hfn : Tryd.pinned.checked.prog.funcs[f]? = some fn) :
    false = Tryd.pinned.checked.prog.looks [] ∧ ∀ (j : Nat) t, fn.params[j]? = some t → Tryd.pinned.checked.prog.wantsStandIn t = false := by
  obtain rfl : f = 11 := Option.some.inj ((show Tryd.prog.funcNamed "pub-convoy/laws.FnKeyShareGroupCut" = some 11 by kernel_rfl).symm.trans hf) |>.symm
  obtain rfl : fn = Tryd.f11 := (Option.some.inj (Tryd.func11.symm.trans hfn)).symm
  refine ⟨by kernel_rfl, fun j t ht => ?_⟩
  rw [Tryd.params11] at ht
  have hm : t ∈ [30, 3] := by simpa using Array.mem_of_getElem? ht
  have hall : ([30, 3].all fun u => !Tryd.prog.wantsStandIn u) = true := by kernel_rfl
  exact (show Tryd.prog.wantsStandIn t = false by simpa using List.all_eq_true.1 hall t hm)
theorem card : Rows.FnKeyShareGroupCutCardSaid :=
  Claim7.holds_tied_plain_at .later [] _ _ _ _ said (fun _ h => by cases h) (by kernel_rfl) (fun _ h => by cases h) fnKeyShareGroupCut_row_tie rfl ⟨rfl, rfl⟩ (by kernel_rfl) rfl plain (by kernel_rfl)
#print axioms card
end Go.Proofs.YtgjlnkciemdklaaDoor.fnKeyShareGroupCut
