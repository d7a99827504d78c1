/- Between the two loops: the boxes that the closure captures; Clone and Equal for whatever dst; what the call of readBearerContexts is handed. -/
import Derived.Test.YbulkcdyqStep
namespace Go.Proofs.Ybulkcdyq
open Go.RowKit

/-- What is known of a slice of ints that came in: its length's worth of cells. -/
def Came (w : World) (a : Option Addr) (n c : Nat) (D : List Int) : Prop :=
  D.length = n ∧ ((a = none ∧ n = 0 ∧ c = 0) ∨ ∃ x, a = some x ∧ ∀ i, i < n → w.cell? (x.add i) = some (.int .i64 (D.getD i 0)))

theorem Came.plain {w : World} {a : Option Addr} {n c : Nat} {D : List Int} (h : Came w a n c D) (hn : 0 < n) : ∃ b o, a = some ⟨b, o, none⟩ ∧ b < w.heap.size ∧ ∀ i, i < n → w.cell? ⟨b, o + i, none⟩ = some (.int .i64 (D.getD i 0)) := by
  rcases h.2 with ⟨_, h0, _⟩ | ⟨x, rfl, hc⟩
  · omega
  · obtain ⟨b, o, sp⟩ := x
    have h0 := hc 0 hn
    have hs : sp = none := by simpa [Addr.add] using World.cell?_spot h0
    subst hs
    have hb := World.block_lt_of_cell? w _ h0
    refine ⟨b, o, rfl, by simpa [Addr.add] using hb, fun i hi => ?_⟩
    have := hc i hi
    have e : (⟨b, o, none⟩ : Addr).add i = ⟨b, o + i, none⟩ := by unfold Addr.add; split <;> simp_all
    rw [e] at this
    exact this

theorem Came.below {w w' : World} {a : Option Addr} {n c : Nat} {D : List Int} (h : Came w a n c D) {B : Nat} (hb : Below B w w') (hB : w.heap.size ≤ B) : Came w' a n c D := by
  refine ⟨h.1, ?_⟩
  rcases h.2 with h | ⟨x, hx, hc⟩
  · exact .inl h
  · refine .inr ⟨x, hx, fun i hi => ?_⟩
    have h1 := hc i hi
    have h2 := World.block_lt_of_cell? w _ h1
    rw [hb.cell (by omega)]; exact h1

theorem clone_any (a : Option Addr) (n c : Nat) (D : List Int) (w : World) (hn : n ≤ 1024) (h : Came w a n c D) :
    Calls Yba.prog 5 #[.slice a n c] w fun e w' => ∃ od cd, e = .returned (.slice od n cd) ∧ w'.ownsRow w.heap.size 3 1 (.slice od n cd) n (D.map (Value.int .i64)) ∧ Below w.heap.size w w' := by
  rcases h.2 with ⟨rfl, rfl, rfl⟩ | ⟨x, rfl, hc⟩
  · refine (clone_nil w).mono ?_
    rintro e w' ⟨rfl, rfl⟩
    have : D = [] := List.eq_nil_of_length_eq_zero h.1
    subst this
    exact ⟨none, 0, rfl, World.ownsRow_nil _ _ _ _, Below.refl _ _⟩
  · refine (clone_some x n c D w h.1 hn hc).mono ?_
    rintro e w' ⟨g, cap, rfl, h1, h2⟩
    exact ⟨some ⟨g, 0, none⟩, cap, rfl, h1, h2⟩

theorem equal_any (a1 a2 : Option Addr) (n c1 c2 : Nat) (D : List Int) (w : World) (hn : n ≤ 1024) (h1 : 0 < n → ∃ g, a1 = some ⟨g, 0, none⟩ ∧ ∀ i, i < n → w.cell? ⟨g, i, none⟩ = some (.int .i64 (D.getD i 0))) (h2 : Came w a2 n c2 D) :
    Calls Yba.prog 7 #[.slice a1 n c1, .slice a2 n c2] w fun e w' => e = .returned (.bool true) ∧ ∃ n, w' = w.drewN n := by
  by_cases h0 : n = 0
  · subst h0; exact equal_zero a1 a2 c1 c2 w
  · obtain ⟨g, rfl, hg⟩ := h1 (by omega)
    obtain ⟨b, o, rfl, _, hb⟩ := h2.plain (by omega)
    exact equal_pos g b 0 o n c1 c2 D w hn (fun i hi => by rw [Nat.zero_add]; exact hg i hi) hb

/-- The world behind the five boxes. -/
def boxes (wr : World) (r : Nat) : World :=
  (((((wr.alloc (.cells #[.int .i64 (r : Int)] 3)).alloc (.cells #[.int .u8 88, .bool false, .bool false, .bool false, .bool false, .int .u8 0, .int .u8 0, .slice none 0 0] 37)).alloc (.cells #[.pointer (some ⟨wr.heap.size + 1, 0, none⟩)] 32)).alloc (.cells #[.slice none 0 0] 23)).alloc (.cells #[.int .i64 0] 3))

theorem boxes_at (wr : World) (r : Nat) : (boxes wr r).heap.size = wr.heap.size + 5 ∧ Mv (fun _ => False) wr (boxes wr r) ∧
    (boxes wr r).heap[wr.heap.size]? = some (.cells #[.int .i64 (r : Int)] 3 (0, 0)) ∧ (boxes wr r).heap[wr.heap.size + 1 + 1]? = some (.cells #[.pointer (some ⟨wr.heap.size + 1, 0, none⟩)] 32 (0, 0)) ∧
    (boxes wr r).heap[wr.heap.size + 1 + 1 + 1]? = some (.cells #[.slice none 0 0] 23 (0, 0)) ∧ (boxes wr r).heap[wr.heap.size + 1 + 1 + 1 + 1]? = some (.cells #[.int .i64 0] 3 (0, 0)) := by
  unfold boxes
  refine ⟨by simp, ?_, ?_, ?_, ?_, ?_⟩
  · exact ((((Mv.alloc wr (fun _ => False) _).trans (Mv.alloc _ _ _) (fun _ _ e => e)).trans (Mv.alloc _ _ _) (fun _ _ e => e)).trans (Mv.alloc _ _ _) (fun _ _ e => e)).trans (Mv.alloc _ _ _) (fun _ _ e => e)
  · rw [Below.heap_alloc _ _ _ (by simp; omega), Below.heap_alloc _ _ _ (by simp; omega), Below.heap_alloc _ _ _ (by simp; omega), Below.heap_alloc _ _ _ (by simp)]
    exact heap_alloc_new _ _
  · rw [Below.heap_alloc _ _ _ (by simp), Below.heap_alloc _ _ _ (by simp)]
    have := heap_alloc_new ((wr.alloc (.cells #[.int .i64 (r : Int)] 3)).alloc (.cells #[.int .u8 88, .bool false, .bool false, .bool false, .bool false, .int .u8 0, .int .u8 0, .slice none 0 0] 37)) (.cells #[.pointer (some ⟨wr.heap.size + 1, 0, none⟩)] 32)
    simpa using this
  · rw [Below.heap_alloc _ _ _ (by simp)]
    have := heap_alloc_new (((wr.alloc (.cells #[.int .i64 (r : Int)] 3)).alloc (.cells #[.int .u8 88, .bool false, .bool false, .bool false, .bool false, .int .u8 0, .int .u8 0, .slice none 0 0] 37)).alloc (.cells #[.pointer (some ⟨wr.heap.size + 1, 0, none⟩)] 32)) (.cells #[.slice none 0 0] 23)
    simpa using this
  · have := heap_alloc_new ((((wr.alloc (.cells #[.int .i64 (r : Int)] 3)).alloc (.cells #[.int .u8 88, .bool false, .bool false, .bool false, .bool false, .int .u8 0, .int .u8 0, .slice none 0 0] 37)).alloc (.cells #[.pointer (some ⟨wr.heap.size + 1, 0, none⟩)] 32)).alloc (.cells #[.slice none 0 0] 23)) (.cells #[.int .i64 0] 3)
    simpa using this

theorem boxes_mine (wr : World) (r : Nat) : (boxes wr r).heap[wr.heap.size + 1]? = some (.cells (refCells 88 false 0 0) 37 (0, 0)) := by
  unfold boxes
  have h0 : wr.heap.size + 1 < ((wr.alloc (.cells #[.int .i64 (r : Int)] 3)).alloc (.cells #[.int .u8 88, .bool false, .bool false, .bool false, .bool false, .int .u8 0, .int .u8 0, .slice none 0 0] 37)).heap.size := by simp
  have := heap_alloc_new (wr.alloc (.cells #[.int .i64 (r : Int)] 3)) (.cells #[.int .u8 88, .bool false, .bool false, .bool false, .bool false, .int .u8 0, .int .u8 0, .slice none 0 0] 37)
  rw [World.size_alloc] at this
  rw [Below.heap_alloc _ _ _ (by rw [World.size_alloc, World.size_alloc]; omega), Below.heap_alloc _ _ _ (by rw [World.size_alloc]; omega), Below.heap_alloc _ _ _ h0]
  exact this

/-- All that the call of readBearerContexts is handed. -/
theorem setup {li la ca ab ao : Nat} {aa : Option Addr} {ty ins : Nat → Int} {w wr w2 : World} {f : Nat → Nat} {want d : Value} {W A D : List Int} (r : Nat)
    (R : R1 w.heap.size li (.slice aa la ca) ty ins w wr li f want W) (hb : Below (boxes wr r).heap.size (boxes wr r) w2) (hd : w2.ownsRow (boxes wr r).heap.size 3 1 d D.length (D.map (Value.int .i64)))
    (hac : ∀ i, i < la → aa = some ⟨ab, ao, none⟩ ∧ w.cell? ⟨ab, ao + i, none⟩ = some (.int .i64 (A.getD i 0))) (hab : ab ≤ w.heap.size) (hAl : A.length = la) (hla : la ≤ 1024) :
    Lst (w.heap.size + 1) li (wr.heap.size + 5) (wr.heap.size + 1 + 1 + 1 + 1) (wr.heap.size + 1 + 1 + 1) ty ins f w2 ∧
    Clo (wr.heap.size + 5) (wr.heap.size + 1 + 1 + 1 + 1) (wr.heap.size + 1 + 1 + 1) wr.heap.size (wr.heap.size + 1 + 1) w.heap.size (wr.heap.size + 1) la ca ab ao aa r A w2 ∧
    Inv (wr.heap.size + 5) (wr.heap.size + 1 + 1 + 1 + 1) (wr.heap.size + 1 + 1 + 1) w2 w2 0 (.slice none 0 0) [] d D d D ∧ Below wr.heap.size wr w2 ∧ w2.heap[wr.heap.size + 1]? = some (.cells (refCells 88 false 0 0) 37 (0, 0)) := by
  obtain ⟨hs, hm, c0, c2, c3, c4⟩ := boxes_at wr r
  rw [hs] at hb hd
  have hs2 := hb.size
  rw [hs] at hs2
  have hbw : Below wr.heap.size wr w2 := (hm.below (Nat.le_refl _) (fun _ _ e => e)).trans (hb.mono (by omega))
  have hN := R.size
  have up : ∀ {k : Nat} {o : Obj}, wr.heap[k]? = some o → w2.heap[k]? = some o := fun {k o} h => (hbw.block k (lt_of_some h)).trans h
  have up2 : ∀ {k : Nat} {o : Obj}, k < wr.heap.size + 5 → (boxes wr r).heap[k]? = some o → w2.heap[k]? = some o := fun {k o} hk h => (hb.block k hk).trans h
  refine ⟨⟨by omega, by omega, by omega, fun i hi => ?_, fun i hi => ?_⟩, ⟨cell_of_one (up2 (by omega) c0), cell_of_one (up2 (by omega) c2), cell_of_one (up R.box), fun i hi => ⟨(hac i hi).1, ?_⟩, hAl, hla, by omega, by omega, by omega, by omega, by omega, by omega, by omega⟩, ?_, hbw, up2 (by omega) (boxes_mine wr r)⟩
  · obtain ⟨cur, h1, _, h3⟩ := R.row
    obtain ⟨e0, e1, e2, e3⟩ := h3 i hi
    exact ⟨by rw [cell_at (up h1)]; exact e0, by rw [cell_at (up h1)]; exact e1, by rw [cell_at (up h1)]; exact e2, by rw [cell_at (up h1)]; exact e3⟩
  · have hv := (R.vals i hi).1
    have := lt_of_some hv
    exact ⟨up hv, by omega, by omega, by omega⟩
  · have h1 := (hac i hi).2
    have h2 := World.block_lt_of_cell? w _ h1
    rw [hbw.cell (by simp only at h2 ⊢; omega), R.bel.cell (by simpa using h2)]
    exact h1
  · refine ⟨Mv.refl _ _, by omega, by simpa using up2 (by omega) c4, up2 (by omega) c3, World.ownsRow_nil _ _ _ _, hd, fun g _ => by simp [Value.ownBlock], ⟨[], by simp⟩, fun g hg => ?_⟩
    obtain ⟨h1, h2⟩ := hd.lt g hg
    refine ⟨h1, h2, by simp [Value.ownBlock], fun t ht => ?_⟩
    have := hd.cells hg t (.int .i64 (D.getD t 0)) (by rw [List.getElem?_map, List.getElem?_eq_getElem ht, List.getD_eq_getElem?_getD, List.getElem?_eq_getElem ht]; rfl)
    have e : (⟨g, 0, none⟩ : Addr).add t = ⟨g, t, none⟩ := by unfold Addr.add; split <;> simp_all
    rw [e] at this
    exact this
end Go.Proofs.Ybulkcdyq
