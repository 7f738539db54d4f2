/-
  FnMissingArgExact: the row proved, and the tied card.
-/
import Derived.Test.YoeeiwDoorLift
import Derived.Test.YoeeiwDoorTie
import Derived.Test.YoeeiwDoorCards
namespace Go.Proofs.YoeeiwDoor
open Go.ChangeShapes Go.WideShapes Go.ChangeAt Go.WideMaps Go.WideElems Go.RowKit

set_option maxRecDepth 100000 in
theorem missing_lifted (os : Os) (started : os.Started) (H : Type) (enc : TypeId × Value → H) :
    ReturnsInHanded {} Eeig.checked os 5 .any (fun w args => (Rows.fnMissingArgExactSpec.pre enc Eeig.prog Eeig.f5 [] false w args ∧ laidMetH Eeig.prog laidL w) ∧ sizedMet enc Eeig.prog Eeig.f5 (OpenSpec.ofChange Rows.fnMissingArgExactSpec) false w args)
      (Rows.fnMissingArgExactSpec.post enc Eeig.prog Eeig.f5 false true false false) := by
  refine returnsInHanded_of_change_and (C := Eeig.checked) (X := fun w _ => laidMetH Eeig.prog laidL w) (fun _ _ _ hh h => h.of_heap hh) own started (by kernel_rfl) Eeig.func5
    (ChangeSpec.witness_shaped (enc := enc) (C := Eeig.checked) (os := os) (X := fun w _ => laidMetH Eeig.prog laidL w) false (World.doorLaid Eeig.prog 400 os) #[.int .i32 0] 8 rfl (World.shaped_of_RefB (by kernel_rfl) (by kernel_rfl)) (by kernel_rfl) (by kernel_rfl) (by kernel_rfl) (door_met os _)) ?_
  intro W base args ds gs before hval0 hW _ _ hL _
  have hval : ∀ (j : Nat) t v, Eeig.f5.params[j]? = some t → args[j]? = some v → Value.okWide Eeig.prog W .any base t v := hval0
  have hW' := hW
  obtain ⟨p, q, hA0, hV, rfl, _, _⟩ := hW
  have hA : DataW.TrodAll enc Eeig.prog W 0 (fun _ => true) true Eeig.f5.params.toList args.toList ds p := hA0
  rw [Eeig.params5] at hA hval
  obtain ⟨v0, d0, rfl, rfl, h0⟩ := trodAll_one hA
  obtain ⟨x, rfl, rfl, rfl, wx⟩ := open_int Eeig.underlying21 (hval 0 21 v0 rfl rfl) h0
  obtain ⟨g1, g2, rfl⟩ := vars_two hV
  refine (law5 x (i32_hi wx) W (max_of_laid hL)).mono fun e W' ⟨he, hb⟩ => ?_
  subst he
  exact ⟨_, rfl, _, _, _, [], [], q, hW', trodAll_mk1 (shut_bool Eeig.underlying4 _), trodAll_mk1 (shut_int Eeig.underlying21 wx), hb.trodVars laidOut (by kernel_rfl) hV, hb.frame _, fun h => by cases h⟩

theorem missing_holds : Rows.FnMissingArgExactSaid :=
  OpenClaim.holds_of_wide 5 Eeig.f5 rfl rfl rfl rfl rfl rfl rfl ⟨rfl, rfl, rfl, rfl, rfl⟩ rfl rfl rfl rfl rfl (by kernel_rfl) Eeig.func5 (by kernel_rfl)
    (of_decide_eq_true (by kernel_rfl)) (by unfold Func.isWrapper; first | (rw [if_pos (by decide +kernel)]; kernel_rfl) | (rw [if_neg (by decide +kernel)]; exact ⟨rfl, rfl⟩))
    (fun os started H enc _ => missing_lifted os started H enc)

/-- The tied card. -/
theorem missing_card : Rows.FnMissingArgExactCardSaid :=
  Claim7.holds_tied_plain_at .later [] [.called, .data] true (true, "8230e1582452a7eff11584377a4824117cb66ed07e411a4502317e5781ad7fc3") false
    missing_holds (fun _ h => by cases h) (by kernel_rfl) (fun _ h => by cases h) fnMissingArgExact_row_tie rfl ⟨rfl, rfl⟩ (by kernel_rfl) rfl
    (fun f fn hf hfn => by
      obtain rfl : f = 5 := Option.some.inj ((show Eeig.prog.funcNamed Rows.fnMissingArgExactRow.func = some 5 by kernel_rfl).symm.trans hf) |>.symm
      obtain rfl : fn = Eeig.f5 := (Option.some.inj (Eeig.func5.symm.trans hfn)).symm
      exact ⟨by kernel_rfl, fun j t ht => by
        rw [Eeig.params5] at ht
        have hm : t ∈ [21] := by simpa using Array.mem_of_getElem? ht
        have hall : ([21].all fun u => !Eeig.prog.wantsStandIn u) = true := by kernel_rfl
        exact (show Eeig.prog.wantsStandIn t = false by simpa using List.all_eq_true.1 hall t hm)⟩)
    (by kernel_rfl)

end Go.Proofs.YoeeiwDoor
