/- The statement: from the walks to the row. The frame is the guide's own way (its skeleton's), a slice of structs opened besides. -/
import Derived.Test.YbulkcdyqRows
import Derived.Test.YbulkcdyqLaw
import Derived.WalkKit
import Derived.ProofKit
import Derived.OpenShut
import Derived.ShutString
import Derived.ChangeOld
import Derived.Below
import Derived.Deep.SlicePairs
namespace Go.Proofs.Ybulkcdyq.lawS4007CReads
open Go.ChangeShapes Go.WideShapes Go.ChangeAt Go.RowKit
open Go.Deep (open_slice_pairs)
set_option linter.unusedVariables false

theorem own : ownKnob Yba.prog.godebug = none := by kernel_rfl
theorem laidOut : laidOutB Yba.prog = true := by kernel_rfl

def IsRow (k : IntKind) (w : World) (a : Option Addr) (len cap : Nat) (zs : List Int) : Prop :=
  (a = none ∧ len = 0 ∧ cap = 0 ∧ zs = []) ∨
  ∃ x, a = some x ∧ len ≤ cap ∧ cap ≤ maxLen ∧ zs.length = cap ∧ (∀ i, i < zs.length → w.cell? (x.add i) = some (.int k (zs.getD i 0))) ∧ ∀ n ∈ zs, (Lit.int k n).wf = true

def IsPairs (w : World) (a : Option Addr) (len cap : Nat) (t s : Nat → Int) : Prop :=
  (a = none ∧ len = 0 ∧ cap = 0) ∨
  ∃ x, a = some x ∧ len ≤ cap ∧ cap ≤ maxLen ∧ ∀ i, i < len → w.cell? (x.add (i * 2)) = some (.int .u8 (t i)) ∧ w.cell? (x.add (i * 2 + 1)) = some (.int .u8 (s i)) ∧ (Lit.int .u8 (t i)).wf = true ∧ (Lit.int .u8 (s i)).wf = true

theorem add_plain (b o i : Nat) : (⟨b, o, none⟩ : Addr).add i = ⟨b, o + i, none⟩ := by unfold Addr.add; split <;> simp_all

theorem row_le {k : IntKind} {w : World} {a : Option Addr} {len cap : Nat} {zs : List Int} (h : IsRow k w a len cap zs) : len ≤ 9223372036854775807 := by
  rcases h with ⟨_, rfl, _⟩ | ⟨_, _, h1, h2, _⟩
  · omega
  · unfold maxLen at h2; omega
theorem pairs_le {w : World} {a : Option Addr} {len cap : Nat} {t s : Nat → Int} (h : IsPairs w a len cap t s) : len ≤ 9223372036854775807 := by
  rcases h with ⟨_, rfl, _⟩ | ⟨_, _, h1, h2, _⟩
  · omega
  · unfold maxLen at h2; omega

theorem came_of {w : World} {a : Option Addr} {len cap : Nat} {zs : List Int} (h : IsRow .i64 w a len cap zs) : Came w a len cap (zs.take len) := by
  rcases h with ⟨rfl, rfl, rfl, rfl⟩ | ⟨x, rfl, h1, h2, h3, h4, _⟩
  · exact ⟨rfl, .inl ⟨rfl, rfl, rfl⟩⟩
  · refine ⟨by rw [List.length_take]; omega, .inr ⟨x, rfl, fun i hi => ?_⟩⟩
    rw [h4 i (by omega), List.getD_eq_getElem?_getD, List.getD_eq_getElem?_getD, List.getElem?_take, if_pos hi]

theorem walk (a0 : Option Addr) (len0 cap0 : Nat) (t s : Nat → Int) (a1 : Option Addr) (len1 cap1 : Nat) (z1 : List Int) (a2 : Option Addr) (len2 cap2 : Nat) (z2 : List Int) (a3 : Int) (w : World)
    (w0 : IsPairs w a0 len0 cap0 t s) (w1 : IsRow .i64 w a1 len1 cap1 z1) (w2 : IsRow .i64 w a2 len2 cap2 z2) (w3 : (Lit.int .u8 a3).wf = true) :
    Calls Yba.prog 3 #[.slice a0 len0 cap0, .slice a1 len1 cap1, .slice a2 len2 cap2, .int .u8 a3] w fun e w' => e = .returned (.bool true) ∧ Below w.heap.size w w' := by
  by_cases b1 : 1024 < len0
  · exact law_big1 a0 a1 a2 len0 cap0 len1 cap1 len2 cap2 a3 w (pairs_le w0) b1
  by_cases b2 : 1024 < len1
  · exact law_big2 a0 a1 a2 len0 cap0 len1 cap1 len2 cap2 a3 w (row_le w1) (by omega) b2
  by_cases b3 : 1024 < len2
  · exact law_big3 a0 a1 a2 len0 cap0 len1 cap1 len2 cap2 a3 w (row_le w2) (by omega) (by omega) b3
  obtain ⟨q0, q1⟩ := bounds_u8 w3
  have c2 := came_of w2
  have hA : ∃ ab ao, ab ≤ w.heap.size ∧ ∀ i, i < len2 → a2 = some ⟨ab, ao, none⟩ ∧ w.cell? ⟨ab, ao + i, none⟩ = some (.int .i64 ((z2.take len2).getD i 0)) := by
    by_cases h0 : len2 = 0
    · exact ⟨0, 0, Nat.zero_le _, fun i hi => absurd hi (by omega)⟩
    · obtain ⟨b, o, e, hb, hc⟩ := c2.plain (by omega)
      exact ⟨b, o, by omega, fun i hi => ⟨e, hc i hi⟩⟩
  obtain ⟨ab, ao, hab, hac⟩ := hA
  have hI : ∃ ib io, ∀ i, i < len0 → a0 = some ⟨ib, io, none⟩ ∧ w.cell? ⟨ib, io + i * 2, none⟩ = some (.int .u8 (t i)) ∧ w.cell? ⟨ib, io + i * 2 + 1, none⟩ = some (.int .u8 (s i)) ∧ 0 ≤ t i ∧ t i ≤ 255 ∧ 0 ≤ s i ∧ s i ≤ 255 := by
    rcases w0 with ⟨rfl, rfl, rfl⟩ | ⟨x, rfl, _, _, hc⟩
    · exact ⟨0, 0, fun i hi => absurd hi (by omega)⟩
    · obtain ⟨b, o, sp⟩ := x
      refine ⟨b, o, fun i hi => ?_⟩
      have h0 := (hc 0 (by omega)).1
      have hs : sp = none := by simpa [Addr.add] using World.cell?_spot h0
      subst hs
      obtain ⟨e1, e2, e3, e4⟩ := hc i hi
      rw [add_plain] at e1 e2
      obtain ⟨l1, l2⟩ := bounds_u8 e3
      obtain ⟨l3, l4⟩ := bounds_u8 e4
      exact ⟨rfl, e1, by rw [Nat.add_assoc]; exact e2, l1, l2, l3, l4⟩
  obtain ⟨ib, io, hie⟩ := hI
  exact law_main ib io a0 a1 a2 len0 cap0 len1 cap1 len2 cap2 ab ao a3 t s (z1.take len1) (z2.take len2) w (by omega) (by omega) (by omega) q0 q1 (came_of w1) hac hab c2.1 hie

set_option maxRecDepth 100000 in
theorem lifted (os : Os) (started : os.Started) (H : Type) (enc : TypeId × Value → H) :
    ReturnsInHanded {} Yba.checked os 3 .any (Rows.lawS4007CReadsSpec.pre6 enc Yba.prog Yba.f3 Rows.lawS4007CReadsRow.domain false) (Rows.lawS4007CReadsSpec.post enc Yba.prog Yba.f3 false true false false) := by
  refine returnsInHanded_of_change (C := Yba.checked) own started (by kernel_rfl) Yba.func3
    (ChangeSpec.witness6 (enc := enc) (C := Yba.checked) false ⟨#[], #[.slice none 0 0, .slice none 0 0, .slice none 0 0, .int .u8 0], []⟩ 8 (by kernel_rfl) (by kernel_rfl) (by kernel_rfl) (by kernel_rfl)) ?_
  intro W base args ds gs before hval0 hW hcnd _
  have hval : ∀ (j : Nat) t v, Yba.f3.params[j]? = some t → args[j]? = some v → Value.okWide Yba.prog W .any base t v := hval0
  have hW' := hW
  obtain ⟨p, q, hA0, hV, rfl, hfz, hnd⟩ := hW
  have hA : DataW.TrodAll enc Yba.prog W 0 (fun _ => true) true Yba.f3.params.toList args.toList ds p := hA0
  rw [Yba.params3] at hA hval
  obtain ⟨v0, vs0, d0, ds0, p0, q0, hargs, rfl, rfl, h0, r0⟩ := trodAll_cons hA
  obtain ⟨v1, vs1, d1, ds1, p1, q1, rfl, rfl, rfl, h1, r1⟩ := trodAll_cons r0
  obtain ⟨v2, vs2, d2, ds2, p2, q2, rfl, rfl, rfl, h2, r2⟩ := trodAll_cons r1
  obtain ⟨v3, vs3, d3, ds3, p3, q3, rfl, rfl, rfl, h3, r3⟩ := trodAll_cons r2
  obtain ⟨rfl, rfl, rfl⟩ := trodAll_nil r3
  obtain rfl : args = #[v0, v1, v2, v3] := by cases args; simp_all
  obtain ⟨rfl, rfl⟩ := trodVars_none hV
  obtain ⟨a0, len0, cap0, rfl⟩ := okWide_slice Yba.underlying22 (hval 0 22 v0 rfl rfl)
  have k0 := h0
  have lt0 : ∀ x ∈ p0, x.block < W.heap.size := by obtain ⟨m, hm⟩ := k0; exact DataW.trod_lt m _ _ _ hm
  obtain ⟨t, s, w0⟩ : ∃ t s, IsPairs W a0 len0 cap0 t s := by
    obtain ⟨fuel, hf⟩ := h0
    rcases open_slice_pairs Yba.underlying22 Yba.underlying26 (by kernel_rfl) rfl rfl (by kernel_rfl) (by kernel_rfl) hf with ⟨hcs, _⟩ | ⟨x, l, c, m, n, V0, V1, D0, D1, P0, P1, hcs, _, hl, hm, hmm, _, hx⟩
    · simp [Value.cells] at hcs
      obtain ⟨rfl, rfl, rfl⟩ := hcs
      exact ⟨fun _ => 0, fun _ => 0, .inl ⟨rfl, rfl, rfl⟩⟩
    · simp [Value.cells] at hcs
      obtain ⟨rfl, rfl, rfl⟩ := hcs
      have hmc : m = cap0 := by simpa using hmm
      have h1 : ∀ i, i < len0 → ∃ z : Int × Int, W.cell? (x.add (i * 2)) = some (.int .u8 z.1) ∧ W.cell? (x.add (i * 2 + 1)) = some (.int .u8 z.2) ∧ (Lit.int .u8 z.1).wf = true ∧ (Lit.int .u8 z.2).wf = true := fun i hi => by
        obtain ⟨e1, e2, e3, e4⟩ := hx i (by omega)
        obtain ⟨u, f0, _, wu⟩ := DataW.trod_int Yba.underlying5 e3
        obtain ⟨u', f1, _, wu'⟩ := DataW.trod_int Yba.underlying5 e4
        simp at f0 f1
        exact ⟨(u, u'), by rw [e1, f0], by rw [e2, f1], wu, wu'⟩
      obtain ⟨z, hz⟩ := Go.Deep.choose_lt h1
      exact ⟨fun i => (z i).1, fun i => (z i).2, .inr ⟨x, rfl, hl, hm, hz⟩⟩
  obtain ⟨a1, len1, cap1, rfl⟩ := okWide_slice Yba.underlying23 (hval 1 23 v1 rfl rfl)
  have k1 := h1
  have lt1 : ∀ x ∈ p1, x.block < W.heap.size := by obtain ⟨m, hm⟩ := k1; exact DataW.trod_lt m _ _ _ hm
  obtain ⟨z1, w1⟩ : ∃ zs, IsRow .i64 W a1 len1 cap1 zs := by
    obtain ⟨fuel, hf⟩ := h1
    rcases open_ints Yba.underlying23 Yba.underlying3 (by kernel_rfl) hf with ⟨hcs, _⟩ | ⟨x, l, c, zs, hcs, _, hl, hm, hz, _, hcell, hwz⟩
    · simp [Value.cells] at hcs
      obtain ⟨rfl, rfl, rfl⟩ := hcs
      exact ⟨[], .inl ⟨rfl, rfl, rfl, rfl⟩⟩
    · simp [Value.cells] at hcs
      obtain ⟨rfl, rfl, rfl⟩ := hcs
      exact ⟨zs, .inr ⟨_, rfl, hl, hm, by simpa using hz, hcell, hwz⟩⟩
  obtain ⟨a2, len2, cap2, rfl⟩ := okWide_slice Yba.underlying23 (hval 2 23 v2 rfl rfl)
  have k2 := h2
  have lt2 : ∀ x ∈ p2, x.block < W.heap.size := by obtain ⟨m, hm⟩ := k2; exact DataW.trod_lt m _ _ _ hm
  obtain ⟨z2, w2⟩ : ∃ zs, IsRow .i64 W a2 len2 cap2 zs := by
    obtain ⟨fuel, hf⟩ := h2
    rcases open_ints Yba.underlying23 Yba.underlying3 (by kernel_rfl) hf with ⟨hcs, _⟩ | ⟨x, l, c, zs, hcs, _, hl, hm, hz, _, hcell, hwz⟩
    · simp [Value.cells] at hcs
      obtain ⟨rfl, rfl, rfl⟩ := hcs
      exact ⟨[], .inl ⟨rfl, rfl, rfl, rfl⟩⟩
    · simp [Value.cells] at hcs
      obtain ⟨rfl, rfl, rfl⟩ := hcs
      exact ⟨zs, .inr ⟨_, rfl, hl, hm, by simpa using hz, hcell, hwz⟩⟩
  obtain ⟨a3, rfl, rfl, rfl, w3⟩ := open_int Yba.underlying5 (hval 3 5 v3 rfl rfl) h3
  clear hA0 hval0
  refine (walk a0 len0 cap0 t s a1 len1 cap1 z1 a2 len2 cap2 z2 a3 W w0 w1 w2 w3).mono fun e W' ⟨he, bel⟩ => ?_
  subst he
  exact ⟨_, rfl, _, _, _, [], _, [], hW', trodAll_mk1 (shut_bool Yba.underlying4 _), (trodAll_cons_mk (Below.trod laidOut (by kernel_rfl) (of_decide_eq_true (by kernel_rfl)) k0 bel lt0) (trodAll_cons_mk (Below.trod laidOut (by kernel_rfl) (of_decide_eq_true (by kernel_rfl)) k1 bel lt1) (trodAll_cons_mk (Below.trod laidOut (by kernel_rfl) (of_decide_eq_true (by kernel_rfl)) k2 bel lt2) (trodAll_cons_mk (shut_int Yba.underlying5 w3) trodAll_mk0)))), rfl, bel.frame _, fun h => by cases h⟩

theorem over : Rows.lawS4007CReadsRow.holds Yba.pinned (OpenSpec.ofChange Rows.lawS4007CReadsSpec) :=
  OpenClaim.holds_of_wide 3 Yba.f3 rfl rfl rfl rfl rfl rfl rfl ⟨rfl, rfl, rfl, rfl, rfl⟩ rfl rfl rfl rfl rfl (by kernel_rfl) Yba.func3 (by kernel_rfl)
    (of_decide_eq_true (by kernel_rfl)) (by unfold Func.isWrapper; first | (rw [if_pos (by decide +kernel)]; kernel_rfl) | (rw [if_neg (by decide +kernel)]; exact ⟨rfl, rfl⟩))
    (fun os started H enc _ => lifted os started H enc)

theorem proved : Rows.LawS4007CReadsSaid := over
#print axioms proved
end Go.Proofs.Ybulkcdyq.lawS4007CReads
