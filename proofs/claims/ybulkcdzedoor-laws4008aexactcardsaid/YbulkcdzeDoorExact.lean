/- LawS4008AExact and LawS4008ASummedWith: from the walks to the rows; the listed variable 'apart' opened. -/
import Derived.Test.YbulkcdzeDoorRows
import Derived.Test.YbulkcdzeDoorCls
import Derived.ProofKit
import Derived.LaidMore
import Derived.OpenShut
import Derived.Stop.Joined
import Derived.SliceStrings
import Derived.ChangeVars
import Derived.ShutString
import Derived.ChangeOld
namespace Go.Proofs.YbulkcdzeDoor
open Go.ChangeShapes Go.WideShapes Go.ChangeAt Go.WideMaps Go.WideElems Go.RowKit
open Go.ChangeMaps (open_string shut_string)
set_option linter.unusedVariables false

theorem own : ownKnob Ybad.prog.godebug = none := by kernel_rfl
theorem laidOut : laidOutB Ybad.prog = true := by kernel_rfl
theorem gApart : Rows.lawS4008AExactSpec.vars.map Ybad.prog.globalNamed = [some 0] := by kernel_rfl
theorem tApart : (Ybad.prog.globals[0]?).map (·.type) = some 31 := by kernel_rfl

/-- WHAT THE CONDITION GIVES THE WALKS. -/
theorem of_laid {W : World} (h : laidMetH Ybad.prog Rows.lawS4008AExactRow.laid W) : ∃ bA oA cA ap, Apt W bA oA cA ap := by
  rw [MakeChecks.laidMetH_plain _ _ _ (by kernel_rfl)] at h
  obtain ⟨ps, ⟨g0, t0, cs0, f0, p0, q0, hg0, ht0, hv0, hd0, _, _⟩, _, _⟩ := h
  have hgn : g0 = 0 := by
    have := gApart
    simp only [Rows.lawS4008AExactSpec, List.map_cons, List.map_nil, List.cons.injEq, and_true] at this
    exact (Option.some.inj (this.symm.trans hg0)).symm
  subst hgn
  obtain rfl := Option.some.inj (tApart.symm.trans ht0)
  rcases open_strings Ybad.underlying31 Ybad.underlying22 (by kernel_rfl) hd0 with ⟨_, hx⟩ | ⟨a, len, cap, ss, hcs, _, hl, _, hlen, hx, hc, _⟩
  · simp [Rows.laid_example_com_kindred_ledger_kindred_ledger_internal_ledger_apart] at hx
  simp only [Rows.laid_example_com_kindred_ledger_kindred_ledger_internal_ledger_apart, Prod.mk.injEq, DataW.slice.injEq] at hx
  obtain ⟨⟨hx1, hx2⟩, _⟩ := hx
  have hlt : (ss.take len).length = 3 := by
    have := congrArg List.length hx1
    simpa [strs] using this.symm
  have hl3 : len = 3 ∨ (len > 3 ∧ ss.length = 3) := by
    rw [List.length_take] at hlt; omega
  have hss : ss.length ≥ 3 := by rw [List.length_take] at hlt; omega
  have hdrop : ss.drop len = [] := by
    have := congrArg List.length hx2
    simp [strs] at this
    exact List.drop_eq_nil_of_le (by omega)
  have hlen3 : len = 3 := by
    rcases hl3 with h | ⟨h1, h2⟩
    · exact h
    · split at hlen
      · omega
      · omega
  subst hlen3
  obtain ⟨b, off, sp⟩ := a
  have h0 := hc 0 (by omega)
  have hs : sp = none := by simpa [Addr.add] using World.cell?_spot h0
  subst hs
  have hvar : W.cell? ⟨0, 0, none⟩ = some (.slice (some ⟨b, off, none⟩) 3 cap) := by
    have := World.var?_cell hg0 hv0 0
    rw [Array.eq_one_of_toList hcs] at this
    simpa using this
  have add : ∀ i, (⟨b, off, none⟩ : Addr).add i = ⟨b, off + i, none⟩ := fun i => by unfold Addr.add; split <;> simp_all
  match ss, hss, hx1 with
  | x0 :: x1 :: x2 :: rest, _, hx1 =>
    simp only [strs, List.take_succ_cons, List.take_zero, List.map_cons, List.map_nil, List.cons.injEq, DataW.lit.injEq, Lit.string.injEq, and_true] at hx1
    obtain ⟨e0, e1, e2⟩ := hx1
    refine ⟨b, off, cap, fun i => if i = 0 then x0 else if i = 1 then x1 else x2, hvar, fun i hi => ?_, ?_, ?_, ?_⟩
    · have := hc i (by simp; omega)
      rw [add] at this
      rw [this]
      match i, hi with
      | 0, _ => rfl
      | 1, _ => rfl
      | 2, _ => rfl
    · rw [ByteArray.toList_eq]; exact e0.symm
    · rw [ByteArray.toList_eq]; exact e1.symm
    · rw [ByteArray.toList_eq]; exact e2.symm

/-- The variable reads behind the call as it did: nothing has turned. -/
theorem vars_again {H : Type} {enc : TypeId × Value → H} {W : World} {n : String} {gs : List (DataW H)} {q : List MemPlace} (hn : Ybad.prog.globalNamed n = some 0) (h : DataW.TrodVars enc Ybad.prog W (fun _ => true) [n] gs q) :
    ∃ d pv, gs = [d] ∧ DataW.TrodVars enc Ybad.prog W (fun b => decide (b < W.heap.size)) [n] [d] pv := by
  obtain ⟨g, t, cs, fuel, d, p, hgs, h1, h2, h3, h4, _⟩ := trodVars_one h
  obtain rfl := Option.some.inj (hn.symm.trans h1)
  obtain rfl := Option.some.inj (tApart.symm.trans h2)
  have hcs : ∃ a l c, cs.toList = [.slice a l c] := by
    rcases open_strings Ybad.underlying31 Ybad.underlying22 (by kernel_rfl) h4 with ⟨hcs, _⟩ | ⟨a, len, cap, ss, hcs, _⟩
    · exact ⟨_, _, _, hcs⟩
    · exact ⟨_, _, _, hcs⟩
  obtain ⟨a, l, c, hcs⟩ := hcs
  have ht : DataW.Trod enc Ybad.prog W 0 (fun _ => true) true 31 (.slice a l c) d p := ⟨fuel, by rw [hcs] at h4; simpa [Value.cells] using h4⟩
  have hlt : ∀ x ∈ p, x.block < W.heap.size := by obtain ⟨m, hm⟩ := ht; exact DataW.trod_lt m _ _ _ hm
  obtain ⟨f2, h5⟩ := Below.trod laidOut (by kernel_rfl) (of_decide_eq_true (by kernel_rfl)) ht (Below.refl _ _) hlt
  exact ⟨d, _, hgs, trodVars_mk1 hn tApart h3 (by rw [hcs]; simpa [Value.cells] using h5)⟩

/-- The door's own heap meets the condition. -/
theorem door_met (os : Os) (args : Array Value) : laidMetH Ybad.prog Rows.lawS4008AExactRow.laid ((World.doorLaid Ybad.prog 400 os).forCall (fun _ _ => 0) ⟨#[], args, []⟩).memory :=
  laidMetH_of_parts3 (fuel := 8) (laidMet_of_run' 8 (by kernel_rfl) (by kernel_rfl)) (by kernel_rfl) (by kernel_rfl)

set_option maxRecDepth 100000 in
theorem lifted_exact (os : Os) (started : os.Started) (H : Type) (enc : TypeId × Value → H) :
    ReturnsInHanded {} Ybad.checked os 3 .any (fun w args => (Rows.lawS4008AExactSpec.pre enc Ybad.prog Ybad.f3 [] false w args ∧ laidMetH Ybad.prog Rows.lawS4008AExactRow.laid w) ∧ sizedMet enc Ybad.prog Ybad.f3 (OpenSpec.ofChange Rows.lawS4008AExactSpec) false w args)
      (Rows.lawS4008AExactSpec.post enc Ybad.prog Ybad.f3 false true false false) := by
  refine returnsInHanded_of_change_and (C := Ybad.checked) (X := fun w _ => laidMetH Ybad.prog Rows.lawS4008AExactRow.laid w) (fun _ _ _ hh h => h.of_heap hh) own started (by kernel_rfl) Ybad.func3
    (ChangeSpec.witness_shaped (enc := enc) (C := Ybad.checked) (os := os) (X := fun w _ => laidMetH Ybad.prog Rows.lawS4008AExactRow.laid w) false (World.doorLaid Ybad.prog 400 os) #[.int .u8 0, .string ⟨#[]⟩] 8 rfl (World.shaped_of_RefB (by kernel_rfl) (by kernel_rfl)) (by kernel_rfl) (by kernel_rfl) (by kernel_rfl) (door_met os _)) ?_
  intro W base args ds gs before hval0 hW _ _ hL _
  have hval : ∀ (j : Nat) t v, Ybad.f3.params[j]? = some t → args[j]? = some v → Value.okWide Ybad.prog W .any base t v := hval0
  have hW' := hW
  obtain ⟨p, q, hA0, hV, rfl, hfz, hnd⟩ := hW
  have hA : DataW.TrodAll enc Ybad.prog W 0 (fun _ => true) true Ybad.f3.params.toList args.toList ds p := hA0
  rw [Ybad.params3] at hA hval
  obtain ⟨v0, vs0, d0, ds0, p0, q0, hargs, rfl, rfl, h0, r0⟩ := trodAll_cons hA
  obtain ⟨v1, vs1, d1, ds1, p1, q1, rfl, rfl, rfl, h1, r1⟩ := trodAll_cons r0
  obtain ⟨rfl, rfl, rfl⟩ := trodAll_nil r1
  obtain rfl : args = #[v0, v1] := by cases args; simp_all
  obtain ⟨a0, rfl, rfl, rfl, w0⟩ := open_int Ybad.underlying5 (hval 0 5 v0 rfl rfl) h0
  obtain ⟨a1, rfl, rfl, rfl, w1⟩ := open_string Ybad.underlying9 (hval 1 9 v1 rfl rfl) h1
  have hn : Ybad.prog.globalNamed (Rows.lawS4008AExactSpec.vars.headD default) = some 0 := by kernel_rfl
  obtain ⟨d, pv, rfl, hvars⟩ := vars_again hn hV
  obtain ⟨bA, oA, cA, ap, HA⟩ := of_laid hL
  obtain ⟨b0, b1⟩ := bounds_u8 w0
  clear hA0 hval0
  refine (exact_any a0 a1 W HA b0 b1).mono fun e W' ⟨he, hw⟩ => ?_
  subst he; subst hw
  exact ⟨_, rfl, _, _, _, [], _, pv, hW', trodAll_mk1 (shut_bool Ybad.underlying4 _), (trodAll_cons_mk (shut_int Ybad.underlying5 w0) (trodAll_cons_mk (shut_string Ybad.underlying9 w1) trodAll_mk0)), hvars, World.keptBut_refl _ _, fun h => by cases h⟩

theorem exact_holds : Rows.LawS4008AExactSaid :=
  OpenClaim.holds_of_wide 3 Ybad.f3 rfl rfl rfl rfl rfl rfl rfl ⟨rfl, rfl, rfl, rfl, rfl⟩ rfl rfl rfl rfl rfl (by kernel_rfl) Ybad.func3 (by kernel_rfl)
    (of_decide_eq_true (by kernel_rfl)) (by unfold Func.isWrapper; first | (rw [if_pos (by decide +kernel)]; kernel_rfl) | (rw [if_neg (by decide +kernel)]; exact ⟨rfl, rfl⟩))
    (fun os started H enc _ => lifted_exact os started H enc)
#print axioms exact_holds
end Go.Proofs.YbulkcdzeDoor
