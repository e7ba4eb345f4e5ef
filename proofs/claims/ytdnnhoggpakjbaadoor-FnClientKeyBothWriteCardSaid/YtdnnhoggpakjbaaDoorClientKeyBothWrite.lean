/-
  WHAT IS PROVED: the law FnClientKeyBothWrite of the given program returns true for every input and leaves its arguments as they were. Conditions: none beyond the row's own.
-/
import Derived.Test.YtdnnhoggpakjbaaDoorCards
import Derived.Test.YtdnnhoggpakjbaaDoorTie
import Derived.Test.YtdnnhoggpakjbaaDoorLaid
import Derived.Test.YtdnnhoggpakjbaaDoorClientKeyBothWriteW
namespace Go.Proofs.YtdnnhoggpakjbaaDoor.fnClientKeyBothWrite
open Go.ChangeShapes Go.WideShapes Go.ChangeAt Go.RowKit
open Go.ChangeMaps (open_string shut_string)
set_option linter.unusedVariables false

/-! ### The frame: from the walk to the statement -/
set_option maxRecDepth 100000 in
theorem lifted (os : Os) (started : os.Started) (H : Type) (enc : TypeId × Value → H) :
    ReturnsInHanded {} Tryd.checked os 3 .any (fun w args => (Rows.fnClientKeyBothWriteSpec.pre enc Tryd.prog Tryd.f3 [] false w args ∧ laidMetH Tryd.prog Rows.fnClientKeyBothWriteRow.laid w) ∧ sizedMet enc Tryd.prog Tryd.f3 (OpenSpec.ofChange Rows.fnClientKeyBothWriteSpec) false w args)
      (Rows.fnClientKeyBothWriteSpec.post enc Tryd.prog Tryd.f3 false true false false) := by
  refine returnsInHanded_of_change_and (C := Tryd.checked) (X := fun w _ => laidMetH Tryd.prog Rows.fnClientKeyBothWriteRow.laid w) (fun _ _ _ hh h => h.of_heap hh) own started (by kernel_rfl) Tryd.func3
    (ChangeSpec.witness_shaped (enc := enc) (C := Tryd.checked) (os := os) (X := fun w _ => laidMetH Tryd.prog Rows.fnClientKeyBothWriteRow.laid w) false (World.doorLaid Tryd.prog 400 os) #[.string ByteArray.empty, .string ByteArray.empty] 8 rfl (World.shaped_of_RefB (by kernel_rfl) (by kernel_rfl)) (by kernel_rfl) (by kernel_rfl) (by kernel_rfl)
      (laidMetH_of_parts3 (fuel := 8) (laidMet_of_run' 8 (by kernel_rfl) (by kernel_rfl)) (by kernel_rfl) (by kernel_rfl))) ?_
  intro W base args ds gs before hval0 hW _ _ hL _
  have hval : ∀ (j : Nat) t v, Tryd.f3.params[j]? = some t → args[j]? = some v → Value.okWide Tryd.prog W .any base t v := hval0
  have hW' := hW
  obtain ⟨p, q, hA0, hV, rfl, hfz, hnd⟩ := hW
  have hA : DataW.TrodAll enc Tryd.prog W 0 (fun _ => true) true Tryd.f3.params.toList args.toList ds p := hA0
  rw [Tryd.params3] at hA hval
  obtain ⟨v0, vs0, d0, ds0, p0, q0, hargs, rfl, rfl, h0, r0⟩ := trodAll_cons hA
  obtain ⟨v1, vs1, d1, ds1, p1, q1, rfl, rfl, rfl, h1, r1⟩ := trodAll_cons r0
  obtain ⟨rfl, rfl, rfl⟩ := trodAll_nil r1
  obtain rfl : args = #[v0, v1] := by cases args; simp_all
  obtain ⟨rfl, rfl⟩ := trodVars_none hV
  have kA := hA0
  have ltA := hA0.lt
  obtain ⟨s0, rfl, rfl, rfl, w0⟩ := open_string Tryd.underlying9 (hval 0 9 v0 rfl rfl) h0
  obtain ⟨s1, rfl, rfl, rfl, w1⟩ := open_string Tryd.underlying9 (hval 1 9 v1 rfl rfl) h1
  have hL0 : laidMetH Tryd.prog Rows.fnClientKeyBothWriteRow.laid W := hL
  rw [MakeChecks.laidMetH_plain _ _ _ (by kernel_rfl)] at hL0
  have e0 : IsErr 77 W 0 := laid_err hL0 (by kernel_rfl : Tryd.prog.globalNamed "pub-convoy/pub/dtls/pkg/protocol/handshake.errInvalidClientKeyExchange" = some 0) (by kernel_rfl : (Tryd.prog.globals[0]?).map (·.type) = some 45) Tryd.underlying45 rowErr Tryd.underlying77 Tryd.underlying104 rfl rfl Tryd.underlying9 (by kernel_rfl) (by kernel_rfl)
  have hL1 := hL0.tail
  have e1 : IsErr 77 W 2 := laid_err hL1 (by kernel_rfl : Tryd.prog.globalNamed "pub-convoy/pub/dtls/pkg/protocol/handshake.errPublicKeyTooLong" = some 2) (by kernel_rfl : (Tryd.prog.globals[2]?).map (·.type) = some 45) Tryd.underlying45 rowErr Tryd.underlying77 Tryd.underlying104 rfl rfl Tryd.underlying9 (by kernel_rfl) (by kernel_rfl)
  clear hA0 hval0
  refine (walk s0 w0 s1 w1 W e0 e1).mono fun e W' ⟨he, bel⟩ => ?_
  subst he
  exact ⟨_, rfl, _, _, _, [], _, [], hW', trodAll_mk1 (shut_bool Tryd.underlying4 _), trodAll_below laidOut bel (by kernel_rfl) kA ltA, rfl, bel.frame _, fun h => by cases h⟩

theorem said : Rows.FnClientKeyBothWriteSaid :=
  OpenClaim.holds_of_wide 3 Tryd.f3 rfl rfl rfl rfl rfl rfl rfl ⟨rfl, rfl, rfl, rfl, rfl⟩ rfl rfl rfl rfl rfl (by kernel_rfl) Tryd.func3 (by kernel_rfl)
    (of_decide_eq_true (by kernel_rfl)) (by unfold Func.isWrapper; first | (rw [if_pos (by decide +kernel)]; kernel_rfl) | (rw [if_neg (by decide +kernel)]; exact ⟨rfl, rfl⟩))
    (fun os started H enc _ => lifted os started H enc)
theorem plain (f : FuncId) (fn : Func) (hf : Tryd.pinned.checked.prog.funcNamed "pub-convoy/laws.FnClientKeyBothWrite" = some f) (hfn : Tryd.pinned.checked.prog.funcs[f]? = some fn) :
    false = Tryd.pinned.checked.prog.looks [] ∧ ∀ (j : Nat) t, fn.params[j]? = some t → Tryd.pinned.checked.prog.wantsStandIn t = false := by
  obtain rfl : f = 3 := Option.some.inj ((show Tryd.prog.funcNamed "pub-convoy/laws.FnClientKeyBothWrite" = some 3 by kernel_rfl).symm.trans hf) |>.symm
  obtain rfl : fn = Tryd.f3 := (Option.some.inj (Tryd.func3.symm.trans hfn)).symm
  refine ⟨by kernel_rfl, fun j t ht => ?_⟩
  rw [Tryd.params3] at ht
  have hm : t ∈ [9, 9] := by simpa using Array.mem_of_getElem? ht
  have hall : ([9, 9].all fun u => !Tryd.prog.wantsStandIn u) = true := by kernel_rfl
  exact (show Tryd.prog.wantsStandIn t = false by simpa using List.all_eq_true.1 hall t hm)
theorem card : Rows.FnClientKeyBothWriteCardSaid :=
  Claim7.holds_tied_plain_at .later [] _ _ _ _ said (fun _ h => by cases h) (by kernel_rfl) (fun _ h => by cases h) fnClientKeyBothWrite_row_tie rfl ⟨rfl, rfl⟩ (by kernel_rfl) rfl plain (by kernel_rfl)
#print axioms card
end Go.Proofs.YtdnnhoggpakjbaaDoor.fnClientKeyBothWrite
