/- LawS4008CItoa: from the walk to the row, and its tied card. -/
import Derived.Test.YbulkcdzeDoorItoa
import Derived.Test.YbulkcdzeDoorTie
import Derived.Test.YbulkcdzeDoorCards
import Derived.ProofKit
import Derived.LaidMore
import Derived.OpenShut
import Derived.Stop.Joined
import Derived.ChangeVars
import Derived.ChangeOld
import Derived.SevenTiedAt
namespace Go.Proofs.YbulkcdzeDoor
open Go.ChangeShapes Go.WideShapes Go.ChangeAt Go.WideMaps Go.WideElems Go.RowKit
set_option linter.unusedVariables false

theorem ownI : ownKnob Ybad.prog.godebug = none := by kernel_rfl

/-- The door's own heap meets the condition. -/
theorem door_met3 (os : Os) (args : Array Value) : laidMetH Ybad.prog Rows.lawS4008CItoaRow.laid ((World.doorLaid Ybad.prog 400 os).forCall (fun _ _ => 0) ⟨#[], args, []⟩).memory :=
  laidMetH_of_parts3 (fuel := 8) (laidMet_of_run' 8 (by kernel_rfl) (by kernel_rfl)) (by kernel_rfl) (by kernel_rfl)

set_option maxRecDepth 100000 in
theorem lifted_itoa (os : Os) (started : os.Started) (H : Type) (enc : TypeId × Value → H) :
    ReturnsInHanded {} Ybad.checked os 5 .any (fun w args => (Rows.lawS4008CItoaSpec.pre enc Ybad.prog Ybad.f5 [] false w args ∧ laidMetH Ybad.prog Rows.lawS4008CItoaRow.laid w) ∧ sizedMet enc Ybad.prog Ybad.f5 (OpenSpec.ofChange Rows.lawS4008CItoaSpec) false w args)
      (Rows.lawS4008CItoaSpec.post enc Ybad.prog Ybad.f5 false true false false) := by
  refine returnsInHanded_of_change_and (C := Ybad.checked) (X := fun w _ => laidMetH Ybad.prog Rows.lawS4008CItoaRow.laid w) (fun _ _ _ hh h => h.of_heap hh) ownI started (by kernel_rfl) Ybad.func5
    (ChangeSpec.witness_shaped (enc := enc) (C := Ybad.checked) (os := os) (X := fun w _ => laidMetH Ybad.prog Rows.lawS4008CItoaRow.laid w) false (World.doorLaid Ybad.prog 400 os) #[.int .i64 0, .int .u8 0] 8 rfl (World.shaped_of_RefB (by kernel_rfl) (by kernel_rfl)) (by kernel_rfl) (by kernel_rfl) (by kernel_rfl) (door_met3 os _)) ?_
  intro W base args ds gs before hval0 hW _ _ hL _
  have hval : ∀ (j : Nat) t v, Ybad.f5.params[j]? = some t → args[j]? = some v → Value.okWide Ybad.prog W .any base t v := hval0
  have hW' := hW
  obtain ⟨p, q, hA0, hV, rfl, hfz, hnd⟩ := hW
  have hA : DataW.TrodAll enc Ybad.prog W 0 (fun _ => true) true Ybad.f5.params.toList args.toList ds p := hA0
  rw [Ybad.params5] at hA hval
  obtain ⟨v0, vs0, d0, ds0, p0, q0, hargs, rfl, rfl, h0, r0⟩ := trodAll_cons hA
  obtain ⟨v1, vs1, d1, ds1, p1, q1, rfl, rfl, rfl, h1, r1⟩ := trodAll_cons r0
  obtain ⟨rfl, rfl, rfl⟩ := trodAll_nil r1
  obtain rfl : args = #[v0, v1] := by cases args; simp_all
  obtain ⟨a0, rfl, rfl, rfl, w0⟩ := open_int Ybad.underlying3 (hval 0 3 v0 rfl rfl) h0
  obtain ⟨a1, rfl, rfl, rfl, w1⟩ := open_int Ybad.underlying5 (hval 1 5 v1 rfl rfl) h1
  obtain ⟨rfl, rfl⟩ := trodVars_none hV
  obtain ⟨b0, b1⟩ := bounds_i64 w0
  obtain ⟨b2, b3⟩ := bounds_u8 w1
  clear hA0 hval0
  refine (itoaLaw_any a0 a1 b0 b1 b2 b3 W (tab_of_laid hL)).mono fun e W' ⟨he, hw⟩ => ?_
  subst he
  exact ⟨_, rfl, _, _, _, [], [], [], hW', trodAll_mk1 (shut_bool Ybad.underlying4 _), (trodAll_cons_mk (shut_int Ybad.underlying3 w0) (trodAll_cons_mk (shut_int Ybad.underlying5 w1) trodAll_mk0)), rfl, hw.frame _, fun h => by cases h⟩

theorem itoa_holds : Rows.LawS4008CItoaSaid :=
  OpenClaim.holds_of_wide 5 Ybad.f5 rfl rfl rfl rfl rfl rfl rfl ⟨rfl, rfl, rfl, rfl, rfl⟩ rfl rfl rfl rfl rfl (by kernel_rfl) Ybad.func5 (by kernel_rfl)
    (of_decide_eq_true (by kernel_rfl)) (by unfold Func.isWrapper; first | (rw [if_pos (by decide +kernel)]; kernel_rfl) | (rw [if_neg (by decide +kernel)]; exact ⟨rfl, rfl⟩))
    (fun os started H enc _ => lifted_itoa os started H enc)

theorem itoa_card : Rows.LawS4008CItoaCardSaid :=
  Claim7.holds_tied_plain_at .later [] [.data, .data, .data] true Rows.lawS4008CItoaCard.stood.harness false
    itoa_holds (fun _ h => by cases h) (by kernel_rfl) (fun _ h => by cases h) lawS4008CItoa_row_tie rfl ⟨rfl, rfl⟩ (by kernel_rfl) rfl
    (fun f fn hf hfn => by
      obtain rfl : f = 5 := Option.some.inj ((show Ybad.prog.funcNamed Rows.lawS4008CItoaRow.func = some 5 by kernel_rfl).symm.trans hf) |>.symm
      obtain rfl : fn = Ybad.f5 := (Option.some.inj (Ybad.func5.symm.trans hfn)).symm
      exact ⟨by kernel_rfl, fun j t ht => by
        rw [Ybad.params5] at ht
        have hm : t ∈ [3, 5] := by simpa using Array.mem_of_getElem? ht
        have hall : ([3, 5].all fun u => !Ybad.prog.wantsStandIn u) = true := by kernel_rfl
        exact (show Ybad.prog.wantsStandIn t = false by simpa using List.all_eq_true.1 hall t hm)⟩)
    (by kernel_rfl)
#print axioms itoa_card
end Go.Proofs.YbulkcdzeDoor
