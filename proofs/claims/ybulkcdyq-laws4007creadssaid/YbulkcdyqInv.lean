/- What the loop of readBearerContexts carries, and what each step does to it; the plain lists. -/
import Derived.Test.YbulkcdyqBase
namespace Go.Proofs.Ybulkcdyq
open Go.RowKit

/-- The places below k that are good, in order. -/
def Wn (good : Nat → Bool) (k : Nat) : List Int := ((List.range k).filter good).map (fun i : Nat => (i : Int))
theorem Wn_zero (good : Nat → Bool) : Wn good 0 = [] := rfl
theorem Wn_yes (good : Nat → Bool) (k : Nat) (h : good k = true) : Wn good (k + 1) = Wn good k ++ [(k : Int)] := by
  simp [Wn, List.range_succ, List.filter_append, h]
theorem Wn_no (good : Nat → Bool) (k : Nat) (h : good k = false) : Wn good (k + 1) = Wn good k := by
  simp [Wn, List.range_succ, List.filter_append, h]
theorem Wn_le (good : Nat → Bool) (k : Nat) : (Wn good k).length ≤ k := by
  have := List.length_filter_le good (List.range k)
  simpa [Wn] using this
theorem Wn_pre (good : Nat → Bool) (k : Nat) : ∀ d, ∃ l, Wn good (k + d) = Wn good k ++ l
  | 0 => ⟨[], by simp⟩
  | d + 1 => by
    obtain ⟨l, hl⟩ := Wn_pre good k d
    cases h : good (k + d)
    · exact ⟨l, by rw [← Nat.add_assoc, Wn_no _ _ h]; exact hl⟩
    · exact ⟨l ++ [((k + d : Nat) : Int)], by rw [← Nat.add_assoc, Wn_yes _ _ h, hl, List.append_assoc]⟩
theorem Wn_take (good : Nat → Bool) {k n : Nat} (h : k ≤ n) : (Wn good n).take (Wn good k).length = Wn good k := by
  obtain ⟨l, hl⟩ := Wn_pre good k (n - k)
  rw [show k + (n - k) = n from by omega] at hl
  rw [hl, List.take_left]

/-- The first c answers. -/
def An (A : List Int) (c : Nat) : List Int := (List.range c).map (fun i => A.getD i 0)
theorem An_zero (A : List Int) : An A 0 = [] := rfl
theorem An_succ (A : List Int) (c : Nat) : An A (c + 1) = An A c ++ [A.getD c 0] := by simp [An, List.range_succ]
theorem An_length (A : List Int) (c : Nat) : (An A c).length = c := by simp [An]

structure Inv (base bK bS : Nat) (w wr : World) (c : Nat) (sv : Value) (seen : List Int) (dv : Value) (dst : List Int) (d : Value) (ds : List Int) : Prop where
  mv : Mv (fun k => k = bK ∨ k = bS ∨ base ≤ k) w wr
  size : base ≤ wr.heap.size
  hK : wr.heap[bK]? = some (.cells #[.int .i64 (c : Int)] 3 (0, 0))
  hS : wr.heap[bS]? = some (.cells #[sv] 23 (0, 0))
  ownS : wr.ownsRow base 3 1 sv seen.length (seen.map (Value.int .i64))
  ownD : wr.ownsRow base 3 1 dv dst.length (dst.map (Value.int .i64))
  sep : ∀ g, dv.ownBlock = some g → sv.ownBlock ≠ some g
  pre : ∃ l, dst = ds ++ l
  old : ∀ g, d.ownBlock = some g → base ≤ g ∧ g < wr.heap.size ∧ sv.ownBlock ≠ some g ∧ ∀ t, t < ds.length → wr.cell? ⟨g, t, none⟩ = some (.int .i64 (ds.getD t 0))

variable {base bK bS : Nat} {w wr w2 : World} {c : Nat} {sv dv d : Value} {seen dst ds : List Int}

/-- A step that turns nothing of what is held: a new block, a draw. -/
theorem Inv.move (I : Inv base bK bS w wr c sv seen dv dst d ds) (h : Mv (fun _ => False) wr w2) : Inv base bK bS w w2 c sv seen dv dst d ds where
  mv := I.mv.trans h (fun _ _ e => e.elim)
  size := Nat.le_trans I.size h.size
  hK := h.get I.hK (fun e => e)
  hS := h.get I.hS (fun e => e)
  ownS := owns_mv I.ownS h (fun _ _ e => e)
  ownD := owns_mv I.ownD h (fun _ _ e => e)
  sep := I.sep
  pre := I.pre
  old := fun g hg => by
    obtain ⟨h1, h2, h3, h4⟩ := I.old g hg
    refine ⟨h1, Nat.lt_of_lt_of_le h2 h.size, h3, fun t ht => ?_⟩
    rw [World.cell?_of_block (w := wr) (h.block g h2 (fun e => e))]
    exact h4 t ht

theorem Inv.alloc (I : Inv base bK bS w wr c sv seen dv dst d ds) (o : Obj) : Inv base bK bS w (wr.alloc o) c sv seen dv dst d ds := I.move (Mv.alloc _ _ _)

/-- The call of read. -/
theorem Inv.call (I : Inv base bK bS w wr c sv seen dv dst d ds) (hbK : bK < base) (hbS : bS < base) {g cap : Nat} {x : Int} (hK : w2.heap[bK]? = some (.cells #[.int .i64 ((c : Int) + 1)] 3 (0, 0)))
    (hS : w2.heap[bS]? = some (.cells #[.slice (some ⟨g, 0, none⟩) (seen.length + 1) cap] 23 (0, 0)))
    (own : w2.ownsRow base 3 1 (.slice (some ⟨g, 0, none⟩) (seen.length + 1) cap) (seen.length + 1) (seen.map (Value.int .i64) ++ [.int .i64 x])) (hat : sv.ownBlock = some g ∨ wr.heap.size ≤ g)
    (hm : Mv (fun k => k = bK ∨ k = bS ∨ sv.ownBlock = some k) wr w2) : Inv base bK bS w w2 (c + 1) (.slice (some ⟨g, 0, none⟩) (seen.length + 1) cap) (seen ++ [x]) dv dst d ds where
  mv := I.mv.trans hm (fun k _ e => by
    rcases e with e | e | e
    · exact .inl e
    · exact .inr (.inl e)
    · exact .inr (.inr (I.ownS.lt k e).1))
  size := Nat.le_trans I.size hm.size
  hK := by rw [hK]; simp
  hS := hS
  ownS := by simpa using own
  ownD := owns_mv I.ownD hm (fun g' hg' e => by
    have h1 := I.ownD.lt g' hg'
    rcases e with e | e | e
    · omega
    · omega
    · exact I.sep g' hg' e)
  sep := fun g' hg' e => by
    simp only [Value.ownBlock, Option.some.injEq] at e
    subst e
    rcases hat with h | h
    · exact I.sep _ hg' h
    · have := (I.ownD.lt _ hg').2; omega
  pre := I.pre
  old := fun g' hg' => by
    obtain ⟨h1, h2, h3, h4⟩ := I.old g' hg'
    refine ⟨h1, Nat.lt_of_lt_of_le h2 hm.size, fun e => ?_, fun t ht => ?_⟩
    · simp only [Value.ownBlock, Option.some.injEq] at e
      subst e
      rcases hat with h | h
      · exact h3 h
      · omega
    · rw [World.cell?_of_block (w := wr) (hm.block g' h2 (fun e => by
        rcases e with e | e | e
        · omega
        · omega
        · exact h3 e))]
      exact h4 t ht

/-- The append onto dst. -/
theorem Inv.app (I : Inv base bK bS w wr c sv seen dv dst d ds) (hbK : bK < base) (hbS : bS < base) {g cap : Nat} {y : Int}
    (own : w2.ownsRow base 3 1 (.slice (some ⟨g, 0, none⟩) (dst.length + 1) cap) (dst.length + 1) (dst.map (Value.int .i64) ++ [.int .i64 y]))
    (hg : (dv.ownBlock = some g ∧ wr.grownBy w2 (some g)) ∨ (g = wr.heap.size ∧ wr.grownBy w2 none)) : Inv base bK bS w w2 c sv seen (.slice (some ⟨g, 0, none⟩) (dst.length + 1) cap) (dst ++ [y]) d ds := by
  have hm : Mv (fun k => dv.ownBlock = some k ∧ k = g) wr w2 := by
    rcases hg with ⟨h1, h2⟩ | ⟨_, h2⟩
    · exact (Mv.grown h2).mono (fun k _ e => by have : k = g := by simpa using e
                                                subst this; exact ⟨h1, rfl⟩)
    · exact (Mv.grown h2).mono (fun k _ e => by simp at e)
  have hgb : base ≤ g := (own.lt g rfl).1
  have nK : ¬ (dv.ownBlock = some bK ∧ bK = g) := fun e => by omega
  have nS : ¬ (dv.ownBlock = some bS ∧ bS = g) := fun e => by omega
  refine ⟨I.mv.trans hm (fun k _ e => .inr (.inr (by omega))), Nat.le_trans I.size hm.size, hm.get I.hK nK, hm.get I.hS nS, owns_mv I.ownS hm (fun g' hg' e => I.sep g' e.1 hg'), by simpa using own, fun g' hg' e => ?_, ?_, fun g' hg' => ?_⟩
  · simp only [Value.ownBlock, Option.some.injEq] at hg'
    subst hg'
    rcases hg with ⟨h1, _⟩ | ⟨h1, _⟩
    · exact I.sep _ h1 e
    · have := (I.ownS.lt _ e).2; omega
  · obtain ⟨l, hl⟩ := I.pre
    exact ⟨l ++ [y], by rw [hl, List.append_assoc]⟩
  · obtain ⟨h1, h2, h3, h4⟩ := I.old g' hg'
    refine ⟨h1, Nat.lt_of_lt_of_le h2 hm.size, h3, fun t ht => ?_⟩
    by_cases e : g' = g
    · subst e
      obtain ⟨l, hl⟩ := I.pre
      have hlt : t < dst.length := by rw [hl]; simp; omega
      rw [own.cellAt t (by omega), List.getElem?_append_left (by simpa using hlt), List.getElem?_map, hl, List.getElem?_append_left ht, List.getD_eq_getElem?_getD, List.getElem?_eq_getElem ht]
      rfl
    · rw [World.cell?_of_block (w := wr) (hm.block g' h2 (fun x => e x.2))]
      exact h4 t ht
end Go.Proofs.Ybulkcdyq
