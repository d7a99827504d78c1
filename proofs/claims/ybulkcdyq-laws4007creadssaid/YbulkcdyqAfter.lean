/- Behind the call of readBearerContexts: what the law's last part reads. -/
import Derived.Test.YbulkcdyqMid
import Derived.LaidEqlPtr
namespace Go.Proofs.Ybulkcdyq
open Go.RowKit

/-- A slice of ints that the call owns: its shape, and its cells. -/
theorem own_shape {w : World} {base : Nat} {v : Value} {l : List Int} (h : w.ownsRow base 3 1 v l.length (l.map (Value.int .i64))) :
    ∃ o c g, v = .slice o l.length c ∧ (o = none → l.length = 0) ∧ ∀ i, i < l.length → o = some ⟨g, 0, none⟩ ∧ w.cell? ⟨g, i, none⟩ = some (.int .i64 (l.getD i 0)) := by
  rcases h.2 with ⟨h0, hn⟩ | ⟨g, cap, cur, h0, _⟩
  · exact ⟨none, 0, 0, by rw [h0, hn], fun _ => hn, fun i hi => absurd hi (by omega)⟩
  · refine ⟨some ⟨g, 0, none⟩, cap, g, h0, fun e => (by cases e), fun i hi => ⟨rfl, ?_⟩⟩
    rw [h0] at h
    rw [h.cellAt i (by omega), List.getElem?_map, List.getD_eq_getElem?_getD, List.getElem?_eq_getElem hi]; rfl

theorem neqNil23 (w : World) (a : Option Addr) (n c : Nat) : (binOp .neq 23 (.slice a n c) (.slice none 0 0)).run Yba.prog w = .ok (.bool !a.isNone) w := run_neq_slice_nil_any w 23 3 a n c 0 0 Yba.underlying23
theorem neqNil24 (w : World) (a : Option Addr) (n c : Nat) : (binOp .neq 24 (.slice a n c) (.slice none 0 0)).run Yba.prog w = .ok (.bool !a.isNone) w := run_neq_slice_nil_any w 24 31 a n c 0 0 Yba.underlying24

theorem size37 : (Yba.prog.info? 37).map (fun j => decide (j.size ≠ 0)) = some true := by kernel_rfl
theorem ptrOther (w : World) {a b : Nat} {ca cb : Array Value} (hne : a ≠ b) (ha : w.heap[a]? = some (.cells ca 37 (0, 0))) (hb : w.heap[b]? = some (.cells cb 37 (0, 0))) :
    (binOp .eql 32 (.pointer (some ⟨a, 0, none⟩)) (.pointer (some ⟨b, 0, none⟩))).run Yba.prog w = .ok (.bool false) w := by
  obtain ⟨j, hj, hz⟩ := Option.map_eq_some_iff.1 size37
  exact run_eql_ptr_other w Yba.underlying32 hj (by simpa using hz) (fun e => hne (congrArg Addr.block e)) ha hb
theorem ptrSame (w : World) (a : Addr) : (binOp .eql 32 (.pointer (some a)) (.pointer (some a))).run Yba.prog w = .ok (.bool true) w := by
  obtain ⟨j, hj, _⟩ := Option.map_eq_some_iff.1 size37
  exact run_eql_ptr_same w a Yba.underlying32 hj

structure Aft (N n0 : Nat) (w w3 : World) (r la ca ab ao ld cd cdd : Nat) (aa od ad : Option Addr) (A D : List Int) (sv : Value) (ow : Option Addr) (W : List Int) (gw : Nat) : Prop where
  bel : Below N w w3
  seen : w3.cell? ⟨n0 + 1 + 1 + 1, 0, none⟩ = some sv
  hR : w3.cell? ⟨n0, 0, none⟩ = some (.int .i64 r)
  hM : w3.cell? ⟨n0 + 1 + 1, 0, none⟩ = some (.pointer (some ⟨n0 + 1, 0, none⟩))
  hA : w3.cell? ⟨N, 0, none⟩ = some (.slice aa la ca)
  hac : ∀ i, i < la → aa = some ⟨ab, ao, none⟩ ∧ w3.cell? ⟨ab, ao + i, none⟩ = some (.int .i64 (A.getD i 0))
  dst : Came w3 ad ld cd D
  d : 0 < ld → ∃ g, od = some ⟨g, 0, none⟩ ∧ ∀ i, i < ld → w3.cell? ⟨g, i, none⟩ = some (.int .i64 (D.getD i 0))
  mine : w3.heap[n0 + 1]? = some (.cells (refCells 88 false 0 0) 37 (0, 0))
  want : ∀ i, i < W.length → ow = some ⟨gw, 0, none⟩ ∧ w3.cell? ⟨gw, i, none⟩ = some (.int .i64 (W.getD i 0))

theorem aft {la ca ab ao ld cd cdd r c gw li : Nat} {aa od ad ow : Option Addr} {w wr w2 w3 : World} {A D W seen dst : List Int} {sv dv want : Value} {ty ins : Nat → Int} {f : Nat → Nat}
    (R : R1 w.heap.size li (.slice aa la ca) ty ins w wr li f want W) (B2 : Below wr.heap.size wr w2) (hmine : w2.heap[wr.heap.size + 1]? = some (.cells (refCells 88 false 0 0) 37 (0, 0)))
    (C : Clo (wr.heap.size + 5) (wr.heap.size + 1 + 1 + 1 + 1) (wr.heap.size + 1 + 1 + 1) wr.heap.size (wr.heap.size + 1 + 1) w.heap.size (wr.heap.size + 1) la ca ab ao aa r A w2)
    (I2 : Inv (wr.heap.size + 5) (wr.heap.size + 1 + 1 + 1 + 1) (wr.heap.size + 1 + 1 + 1) w2 w2 0 (.slice none 0 0) [] (.slice od ld cdd) D (.slice od ld cdd) D)
    (I3 : Inv (wr.heap.size + 5) (wr.heap.size + 1 + 1 + 1 + 1) (wr.heap.size + 1 + 1 + 1) w2 w3 c sv seen dv dst (.slice od ld cdd) D)
    (hD : Came w ad ld cd D) (hw : ∀ i, i < W.length → ow = some ⟨gw, 0, none⟩ ∧ wr.cell? ⟨gw, i, none⟩ = some (.int .i64 (W.getD i 0)) ∧ gw < wr.heap.size) :
    Aft w.heap.size wr.heap.size w w3 r la ca ab ao ld cd cdd aa od ad A D sv ow W gw := by
  have hs := I2.size
  have C3 := C.mv I3.mv hs
  have hN := R.size
  have hb3 : Below wr.heap.size wr w3 := B2.trans (I3.mv.below (by omega) (fun k hk e => by omega))
  have hb : Below w.heap.size w w3 := R.bel.trans (hb3.mono (by omega))
  refine ⟨hb, cell_of_one I3.hS, C3.hR, C3.hM, C3.hA, C3.hac, hD.below hb (Nat.le_refl _), fun hl => ?_, I3.mv.get hmine (fun e => by omega), fun i hi => ⟨(hw i hi).1, ?_⟩⟩
  · have hDl := hD.1
    have := I2.ownD
    rw [hDl] at this
    obtain ⟨g, cap, e, _, _⟩ := this.form hl
    have e1 : od = some ⟨g, 0, none⟩ := by simp at e; exact e.1
    refine ⟨g, e1, fun i hi => ?_⟩
    subst e1
    exact (I3.old g rfl).2.2.2 i (by omega)
  · rw [hb3.cell (by exact (hw i hi).2.2)]; exact (hw i hi).2.1
end Go.Proofs.Ybulkcdyq
