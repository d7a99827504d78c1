/- The law's early returns, and what the first loop's round does to memory. -/
import Derived.Test.YbulkcdyqCtx
namespace Go.Proofs.Ybulkcdyq
open Go.RowKit

set_option maxRecDepth 100000 in
theorem law_big1 (ai ad aa : Option Addr) (li ci ld cd la ca : Nat) (q : Int) (w : World) (hci : li ≤ 9223372036854775807) (h : 1024 < li) :
    Calls Yba.prog 3 #[.slice ai li ci, .slice ad ld cd, .slice aa la ca, .int .u8 q] w fun e w' => e = .returned (.bool true) ∧ Below w.heap.size w w' := by
  go_enter Yba.func3, Yba.ntmps3
  go_wp2
  go_ret
  exact ⟨rfl, (Below.refl _ _).alloc (Nat.le_refl _) _⟩
set_option maxRecDepth 100000 in
theorem law_big2 (ai ad aa : Option Addr) (li ci ld cd la ca : Nat) (q : Int) (w : World) (hci : ld ≤ 9223372036854775807) (h1 : li ≤ 1024) (h : 1024 < ld) :
    Calls Yba.prog 3 #[.slice ai li ci, .slice ad ld cd, .slice aa la ca, .int .u8 q] w fun e w' => e = .returned (.bool true) ∧ Below w.heap.size w w' := by
  go_enter Yba.func3, Yba.ntmps3
  go_wp2
  go_ret
  exact ⟨rfl, (Below.refl _ _).alloc (Nat.le_refl _) _⟩
set_option maxRecDepth 100000 in
theorem law_big3 (ai ad aa : Option Addr) (li ci ld cd la ca : Nat) (q : Int) (w : World) (hci : la ≤ 9223372036854775807) (h1 : li ≤ 1024) (h2 : ld ≤ 1024) (h : 1024 < la) :
    Calls Yba.prog 3 #[.slice ai li ci, .slice ad ld cd, .slice aa la ca, .int .u8 q] w fun e w' => e = .returned (.bool true) ∧ Below w.heap.size w w' := by
  go_enter Yba.func3, Yba.ntmps3
  go_wp2
  go_ret
  exact ⟨rfl, (Below.refl _ _).alloc (Nat.le_refl _) _⟩

def tyOf (t : Nat → Int) (i : Nat) : Int := if t i % 3 = 0 then 93 else t i
def insOf (s : Nat → Int) (i : Nat) : Int := if s i % 2 = 0 then 0 else s i

/-- What the first loop leaves in memory, k rounds on. -/
structure R1 (N li : Nat) (ansv : Value) (ty ins : Nat → Int) (w wr : World) (k : Nat) (f : Nat → Nat) (want : Value) (W : List Int) : Prop where
  bel : Below N w wr
  size : N + 2 ≤ wr.heap.size
  box : wr.heap[N]? = some (.cells #[ansv] 23 (0, 0))
  row : ∃ cur, wr.heap[N + 1]? = some (.cells cur 31 (0, 0)) ∧ cur.size = li * 4 ∧ ∀ i, i < k → cur[i * 4]? = some (.int .u8 (ty i)) ∧ cur[i * 4 + 1]? = some (.int .u8 (ins i)) ∧ cur[i * 4 + 2]? = some (.int .u8 0) ∧ cur[i * 4 + 3]? = some (.slice (some ⟨f i, 0, none⟩) 2 2)
  vals : ∀ i, i < k → wr.heap[f i]? = some (.cells #[.int .u8 ((i : Int) % 256), .int .u8 ((i : Int) / 256)] 5 (0, 0)) ∧ N + 2 ≤ f i
  own : wr.ownsRow (N + 2) 3 1 want W.length (W.map (Value.int .i64))

def put4 (wr : World) (b o : Nat) (x y z u : Value) : World := (((wr.setCell ⟨b, o, none⟩ x).setCell ⟨b, o + 1, none⟩ y).setCell ⟨b, o + 2, none⟩ z).setCell ⟨b, o + 3, none⟩ u

theorem put4_heap (wr : World) (b o : Nat) (x y z u : Value) (cur : Array Value) (h : wr.heap[b]? = some (.cells cur 31 (0, 0))) :
    (put4 wr b o x y z u).heap[b]? = some (.cells ((((cur.setIfInBounds o x).setIfInBounds (o + 1) y).setIfInBounds (o + 2) z).setIfInBounds (o + 3) u) 31 (0, 0)) :=
  heap_setCell_same _ b _ _ 31 _ (heap_setCell_same _ b _ _ 31 _ (heap_setCell_same _ b _ _ 31 _ (heap_setCell_same _ b _ _ 31 _ h)))
theorem put4_mv (wr : World) (b o : Nat) (x y z u : Value) : Mv (fun k => k = b) wr (put4 wr b o x y z u) :=
  ((((Mv.setCell wr ⟨b, o, none⟩ x).trans (Mv.setCell _ ⟨b, o + 1, none⟩ y) (fun _ _ h => h)).trans (Mv.setCell _ ⟨b, o + 2, none⟩ z) (fun _ _ h => h)).trans (Mv.setCell _ ⟨b, o + 3, none⟩ u) (fun _ _ h => h))

section
variable {N li : Nat} {ansv : Value} {ty ins : Nat → Int} {w wr w2 : World} {k : Nat} {f : Nat → Nat} {want : Value} {W : List Int}

theorem R1.move (R : R1 N li ansv ty ins w wr k f want W) (h : Mv (fun _ => False) wr w2) : R1 N li ansv ty ins w w2 k f want W where
  bel := R.bel.trans (h.below (by have := R.size; omega) (fun _ _ e => e))
  size := Nat.le_trans R.size h.size
  box := h.get R.box (fun e => e)
  row := by obtain ⟨cur, h1, h2⟩ := R.row; exact ⟨cur, h.get h1 (fun e => e), h2⟩
  vals := fun i hi => ⟨h.get (R.vals i hi).1 (fun e => e), (R.vals i hi).2⟩
  own := owns_mv R.own h (fun _ _ e => e)

/-- 'list[k] = IE{..}', behind the boxes that the round has made. -/
theorem R1.put (R : R1 N li ansv ty ins w wr k f want W) (hk : k < li) (o1 : Obj) :
    R1 N li ansv ty ins w (((put4 wr (N + 1) (k * 4) (.int .u8 (ty k)) (.int .u8 (ins k)) (.int .u8 0) (.slice (some ⟨wr.heap.size + 1, 0, none⟩) 2 2)).alloc o1).alloc (.cells #[.int .u8 ((k : Int) % 256), .int .u8 ((k : Int) / 256)] 5)) (k + 1) (fun i => if i = k then wr.heap.size + 1 else f i) want W := by
  obtain ⟨cur, hc, hcs, hcur⟩ := R.row
  have hp := put4_heap wr (N + 1) (k * 4) (.int .u8 (ty k)) (.int .u8 (ins k)) (.int .u8 0) (.slice (some ⟨wr.heap.size + 1, 0, none⟩) 2 2) cur hc
  have hm := put4_mv wr (N + 1) (k * 4) (.int .u8 (ty k)) (.int .u8 (ins k)) (.int .u8 0) (.slice (some ⟨wr.heap.size + 1, 0, none⟩) 2 2)
  have hsz : (put4 wr (N + 1) (k * 4) (.int .u8 (ty k)) (.int .u8 (ins k)) (.int .u8 0) (.slice (some ⟨wr.heap.size + 1, 0, none⟩) 2 2)).heap.size = wr.heap.size := by simp [put4]
  generalize put4 wr (N + 1) (k * 4) (.int .u8 (ty k)) (.int .u8 (ins k)) (.int .u8 0) (.slice (some ⟨wr.heap.size + 1, 0, none⟩) 2 2) = wp at *
  have hm2 : Mv (fun _ => False) wp ((wp.alloc o1).alloc (.cells #[.int .u8 ((k : Int) % 256), .int .u8 ((k : Int) / 256)] 5)) := (Mv.alloc _ _ _).trans (Mv.alloc _ _ _) (fun _ _ e => e)
  have hmm := hm.trans hm2 (fun _ _ e => e.elim)
  have hs := R.size
  have hnew : ((wp.alloc o1).alloc (.cells #[.int .u8 ((k : Int) % 256), .int .u8 ((k : Int) / 256)] 5)).heap[wr.heap.size + 1]? = some (.cells #[.int .u8 ((k : Int) % 256), .int .u8 ((k : Int) / 256)] 5 (0, 0)) := by
    have := heap_alloc_new (wp.alloc o1) (.cells #[.int .u8 ((k : Int) % 256), .int .u8 ((k : Int) / 256)] 5)
    rw [World.size_alloc, hsz] at this
    exact this
  refine ⟨R.bel.trans (hmm.below (by omega) (fun j hj e => by omega)), Nat.le_trans hs hmm.size, hmm.get R.box (fun e => by omega), ?_, ?_, ?_⟩
  · refine ⟨_, hm2.get hp (fun e => e), by simp [hcs], fun i hi => ?_⟩
    simp only [Array.getElem?_setIfInBounds]
    by_cases e : i = k
    · subst e
      have a0 : i * 4 < cur.size := by omega
      have a1 : i * 4 + 1 < cur.size := by omega
      have a2 : i * 4 + 2 < cur.size := by omega
      have a3 : i * 4 + 3 < cur.size := by omega
      simp [a0, a1, a2, a3]
    · have hik : i < k := by omega
      obtain ⟨e0, e1, e2, e3⟩ := hcur i hik
      have n0 : ∀ a b : Nat, a < 4 → b < 4 → ¬ (k * 4 + a = i * 4 + b) := fun a b _ _ => by omega
      have m00 := n0 0 0; have m01 := n0 0 1; have m02 := n0 0 2; have m03 := n0 0 3
      have m10 := n0 1 0; have m11 := n0 1 1; have m12 := n0 1 2; have m13 := n0 1 3
      have m20 := n0 2 0; have m21 := n0 2 1; have m22 := n0 2 2; have m23 := n0 2 3
      have m30 := n0 3 0; have m31 := n0 3 1; have m32 := n0 3 2; have m33 := n0 3 3
      simp only [Nat.add_zero] at m00 m01 m02 m03 m10 m20 m30
      rw [if_neg (m30 (by omega) (by omega)), if_neg (m20 (by omega) (by omega)), if_neg (m10 (by omega) (by omega)), if_neg (m00 (by omega) (by omega)),
        if_neg (m31 (by omega) (by omega)), if_neg (m21 (by omega) (by omega)), if_neg (m11 (by omega) (by omega)), if_neg (m01 (by omega) (by omega)),
        if_neg (m32 (by omega) (by omega)), if_neg (m22 (by omega) (by omega)), if_neg (m12 (by omega) (by omega)), if_neg (m02 (by omega) (by omega)),
        if_neg (m33 (by omega) (by omega)), if_neg (m23 (by omega) (by omega)), if_neg (m13 (by omega) (by omega)), if_neg (m03 (by omega) (by omega)), if_neg e]
      exact ⟨e0, e1, e2, e3⟩
  · intro i hi
    by_cases e : i = k
    · subst e
      simp only [if_true]
      exact ⟨hnew, by omega⟩
    · rw [if_neg e]
      have hv := R.vals i (by omega)
      exact ⟨hmm.get hv.1 (fun x => by omega), hv.2⟩
  · exact owns_mv R.own hmm (fun g hg e => by have := (R.own.lt g hg).1; omega)

/-- 'want = append(want, k)'. -/
theorem R1.app (R : R1 N li ansv ty ins w wr k f want W) {v' : Value} {x : Int} (own : w2.ownsRow (N + 2) 3 1 v' (W.length + 1) (W.map (Value.int .i64) ++ [.int .i64 x])) (hg : wr.grownBy w2 want.ownBlock) : R1 N li ansv ty ins w w2 k f v' (W ++ [x]) := by
  have hm := Mv.grown hg
  have hl : ∀ g, some g = want.ownBlock → N + 2 ≤ g := fun g e => (R.own.lt g e.symm).1
  have h3 : ∀ g, some g = want.ownBlock → ∃ cur, wr.heap[g]? = some (.cells cur 3 (0, 0)) := fun g e => by
    rcases R.own.2 with ⟨rfl, _⟩ | ⟨g', cap, cur, rfl, _, hgg, _⟩
    · simp [Value.ownBlock] at e
    · simp [Value.ownBlock] at e; subst e; exact ⟨cur, hgg⟩
  have hs := R.size
  refine ⟨R.bel.trans (hm.below (by omega) (fun j hj e => by have := hl j e; omega)), Nat.le_trans hs hm.size, hm.get R.box (fun e => by have := hl _ e; omega), ?_, fun i hi => ?_, by simpa using own⟩
  · obtain ⟨cur, h1, h2⟩ := R.row
    exact ⟨cur, hm.get h1 (fun e => by have := hl _ e; omega), h2⟩
  · have hv := R.vals i hi
    refine ⟨hm.get hv.1 (fun e => ?_), hv.2⟩
    obtain ⟨cur, hcur⟩ := h3 _ e
    rw [hv.1] at hcur
    simp at hcur
end

end Go.Proofs.Ybulkcdyq
