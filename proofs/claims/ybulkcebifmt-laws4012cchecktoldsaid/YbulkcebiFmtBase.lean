/- Blocks, frames, slices that came in; the contracts of bytes.Clone, slices.Clone, bytes.Equal, slices.Equal (at []uint64). -/
import Derived.Test.YbulkcebiFmtProg
import Derived.WalkKit
import Derived.WalkSpells
import Derived.WalkSmall
import Derived.LoopTactic
import Derived.LoopN
import Derived.Deep.AppendLies
import Derived.Deep.Draws
import Derived.Deep.QuietTactic
import Derived.BigQuiet
import Derived.Laws.BytesArg
import Derived.OneCell
import Derived.KernelRfl
namespace Go.Proofs.YbulkcebiFmt
open Go.RowKit

theorem hide {p : Prop} (h : p) : Hid p := h
theorem unhide {p : Prop} (h : Hid p) : p := h

theorem info5 : (Ybaf.prog.info? 5).map (fun i => (i.zero, i.size, i.bytes)) = some (some (.int .u8 0), 1, 1) := by kernel_rfl
theorem info44 : (Ybaf.prog.info? 44).map (fun i => (i.zero, i.size, i.bytes)) = some (some (.int .u64 0), 1, 8) := by kernel_rfl

theorem lt_of_some {w : World} {r : Nat} {o : Obj} (h : w.heap[r]? = some o) : r < w.heap.size := (Array.getElem?_eq_some_iff.1 h).1
theorem cell_at {w : World} {b i : Nat} {cs : Array Value} {t : TypeId} {f : Nat × Nat} (h : w.heap[b]? = some (.cells cs t f)) : w.cell? ⟨b, i, none⟩ = cs[i]? := by
  unfold World.cell?; rw [h]; rfl
theorem free_at {w : World} {b i : Nat} {cs : Array Value} {t : TypeId} (h : w.heap[b]? = some (.cells cs t (0, 0))) : w.frozen? ⟨b, i, none⟩ = false := by
  unfold World.frozen?; rw [h]; simp

/-- Every old block but those of which 'f' says true is as it was. -/
structure Mv (f : Nat → Prop) (w w' : World) : Prop where
  os : w'.os = w.os
  tape : w'.tape = w.tape
  output : w'.output = w.output
  size : w.heap.size ≤ w'.heap.size
  block : ∀ k, k < w.heap.size → ¬ f k → w'.heap[k]? = w.heap[k]?

theorem Mv.refl (f : Nat → Prop) (w : World) : Mv f w w := ⟨rfl, rfl, rfl, Nat.le_refl _, fun _ _ _ => rfl⟩
theorem Mv.trans {f g : Nat → Prop} {a b c : World} (h : Mv f a b) (k : Mv g b c) (hg : ∀ x, x < a.heap.size → g x → f x) : Mv f a c :=
  ⟨k.os.trans h.os, k.tape.trans h.tape, k.output.trans h.output, Nat.le_trans h.size k.size, fun x hx hf => (k.block x (Nat.lt_of_lt_of_le hx h.size) (fun e => hf (hg x hx e))).trans (h.block x hx hf)⟩
theorem Mv.mono {f g : Nat → Prop} {a b : World} (h : Mv f a b) (hg : ∀ x, x < a.heap.size → f x → g x) : Mv g a b :=
  ⟨h.os, h.tape, h.output, h.size, fun x hx hn => h.block x hx (fun e => hn (hg x hx e))⟩
theorem Mv.drewN (w : World) (f : Nat → Prop) (n : Nat) : Mv f w (w.drewN n) := ⟨rfl, rfl, rfl, Nat.le_refl _, fun _ _ _ => rfl⟩
theorem Mv.alloc (w : World) (f : Nat → Prop) (o : Obj) : Mv f w (w.alloc o) := ⟨rfl, rfl, rfl, by simp, fun k hk _ => Below.heap_alloc w o k hk⟩
theorem Mv.setCell (w : World) (a : Addr) (u : Value) : Mv (fun k => k = a.block) w (w.setCell a u) := ⟨rfl, rfl, rfl, by simp, fun k _ hn => Below.heap_setCell w a u k hn⟩
theorem Mv.below {w w' : World} {f : Nat → Prop} {B : Nat} (h : Mv f w w') (hB : B ≤ w.heap.size) (hf : ∀ k, k < B → ¬ f k) : Below B w w' := ⟨h.os, h.tape, h.output, h.size, fun k hk => h.block k (by omega) (hf k hk)⟩
theorem Mv.of_below {w w' : World} (h : Below w.heap.size w w') (f : Nat → Prop) : Mv f w w' := ⟨h.os, h.tape, h.output, h.size, fun k hk _ => h.block k hk⟩
theorem Mv.get {f : Nat → Prop} {w w' : World} {b : Nat} {o : Obj} (h : Mv f w w') (hb : w.heap[b]? = some o) (hf : ¬ f b) : w'.heap[b]? = some o := (h.block b (lt_of_some hb) hf).trans hb

/-- What is known of a slice of integers: its length's worth of cells. -/
def Came (k : IntKind) (w : World) (a : Option Addr) (n c : Nat) (D : List Int) : Prop :=
  D.length = n ∧ ((a = none ∧ n = 0 ∧ c = 0) ∨ ∃ x, a = some x ∧ ∀ i, i < n → w.cell? (x.add i) = some (.int k (D.getD i 0)))

theorem add_plain (b o i : Nat) : (⟨b, o, none⟩ : Addr).add i = ⟨b, o + i, none⟩ := by unfold Addr.add; split <;> simp_all
theorem add_block (x : Addr) (i : Nat) : (x.add i).block = x.block := by unfold Addr.add; split <;> rfl

theorem Came.plain {k : IntKind} {w : World} {a : Option Addr} {n c : Nat} {D : List Int} (h : Came k w a n c D) (hn : 0 < n) : ∃ b o, a = some ⟨b, o, none⟩ ∧ b < w.heap.size ∧ ∀ i, i < n → w.cell? ⟨b, o + i, none⟩ = some (.int k (D.getD i 0)) := by
  rcases h.2 with ⟨_, h0, _⟩ | ⟨x, rfl, hc⟩
  · omega
  · obtain ⟨b, o, sp⟩ := x
    have h0 := hc 0 hn
    have hs : sp = none := by simpa [Addr.add] using World.cell?_spot h0
    subst hs
    have hb := World.block_lt_of_cell? w _ h0
    refine ⟨b, o, rfl, by simpa [add_block] using hb, fun i hi => ?_⟩
    have := hc i hi
    rw [add_plain] at this
    exact this

theorem Came.mv {k : IntKind} {f : Nat → Prop} {w w' : World} {a : Option Addr} {n c : Nat} {D : List Int} (h : Came k w a n c D) (hm : Mv f w w') (hf : ∀ x, a = some x → x.block < w.heap.size → ¬ f x.block) : Came k w' a n c D := by
  refine ⟨h.1, ?_⟩
  rcases h.2 with h | ⟨x, hx, hc⟩
  · exact .inl h
  · refine .inr ⟨x, hx, fun i hi => ?_⟩
    have h1 := hc i hi
    have h2 := World.block_lt_of_cell? w _ h1
    rw [add_block] at h2
    have h3 := hm.block x.block h2 (hf x hx h2)
    unfold World.cell? at h1 ⊢
    rw [add_block] at h1 ⊢
    rw [h3]; exact h1

theorem owns_came {k : IntKind} {w : World} {B e n c g : Nat} {D : List Int} (h : w.ownsRow B e 1 (.slice (some ⟨g, 0, none⟩) n c) n (D.map (Value.int k))) (hl : D.length = n) : Came k w (some ⟨g, 0, none⟩) n c D := by
  refine ⟨hl, .inr ⟨_, rfl, fun i hi => ?_⟩⟩
  refine h.cells rfl i (.int k (D.getD i 0)) ?_
  rw [List.getElem?_map, List.getElem?_eq_getElem (by omega), List.getD_eq_getElem?_getD, List.getElem?_eq_getElem (by omega)]
  rfl

theorem eqNil22 (w : World) (a : Option Addr) (n c : Nat) : (binOp .eql 22 (.slice a n c) (.slice none 0 0)).run Ybaf.prog w = .ok (.bool a.isNone) w := Lib.run_eql_slice_nil w 22 44 a n c 0 0 Ybaf.underlying22
theorem eqNil23 (w : World) (a : Option Addr) (n c : Nat) : (binOp .eql 23 (.slice a n c) (.slice none 0 0)).run Ybaf.prog w = .ok (.bool a.isNone) w := Lib.run_eql_slice_nil w 23 5 a n c 0 0 Ybaf.underlying23

/-- What a clone gives. -/
def Cloned (k : IntKind) (w w' : World) (n : Nat) (D : List Int) (e : Ending) : Prop :=
  ∃ a c, e = .returned (.slice a n c) ∧ Came k w' a n c D ∧ (∀ x, a = some x → w.heap.size ≤ x.block) ∧ Below w.heap.size w w'

theorem news_of {k : IntKind} {w : World} {x : Addr} {n : Nat} {ds : List Int} (hl : ds.length = n) (hc : ∀ i, i < n → w.cell? (x.add i) = some (.int k (ds.getD i 0))) (o : Obj) (j : Nat) (u : Value)
    (hj : (ds.map (Value.int k))[j]? = some u) : (w.alloc o).cell? (x.add j) = some u := by
  rw [List.getElem?_map, Option.map_eq_some_iff] at hj
  obtain ⟨d, hd, rfl⟩ := hj
  obtain ⟨hlt, hd'⟩ := List.getElem?_eq_some_iff.1 hd
  have h1 := hc j (by omega)
  have h2 := World.block_lt_of_cell? w _ h1
  rw [((Below.refl w.heap.size w).alloc (Nat.le_refl _) _).cell h2, h1, List.getD_eq_getElem?_getD, hd]
  rfl

theorem own_plain {w : World} {B e n : Nat} {v : Value} {xs : List Value} (h : w.ownsRow B e 1 v n xs) (hne : v ≠ .slice none 0 0) : ∃ g cap, v = .slice (some ⟨g, 0, none⟩) n cap := by
  rcases h.2 with ⟨h, _⟩ | ⟨g, cap, cur, h, _⟩
  · exact absurd h hne
  · exact ⟨g, cap, h⟩

set_option maxRecDepth 100000 in
theorem clone22_some (x : Addr) (n c : Nat) (ds : List Int) (w : World) (hl : ds.length = n) (hn1 : n ≤ 1024) (hc : ∀ i, i < n → w.cell? (x.add i) = some (.int .u64 (ds.getD i 0))) :
    Calls Ybaf.prog 8 #[.slice (some x) n c] w fun e w' => Cloned .u64 w w' n ds e := by
  obtain ⟨i0, hi, hz0, hz1, hz2⟩ := info_parts info44
  have hn := eqNil22
  have hown : (w.alloc (.cells #[] 44)).ownsRow w.heap.size 44 1 (.slice (some ⟨w.heap.size, 0, none⟩) 0 0) 0 [] := World.ownsRow_lit w #[] 0 (Nat.le_refl _) (by decide) rfl
  have hnews := news_of hl hc (.cells #[] 44)
  have HC := hide hc
  clear hc
  go_enter Ybaf.func8, Ybaf.ntmps8
  go_wp2_with (at_builtin; refine wpList_append_own _ rfl _ _ 22 rfl w.heap.size 44 i0 (.int .u64 0) 1 8 Ybaf.underlying22 hi hz0 hz1 hz2 rfl (by decide) _ _ _ rfl hown x n c (ds.map (Value.int .u64)) rfl (by simp [hl]) hnews (ints_oneCell _ _) (by unfold maxLen; omega) (by omega) (by simp) ?_)
  intro v' w1 hown' hgrow hnil
  have hne : v' ≠ .slice none 0 0 := hnil
  have hb : Below w.heap.size w w1 := ((Below.refl _ _).alloc (Nat.le_refl _) _).grown hgrow (by simp) (fun k hk => by simp [Value.ownBlock] at hk; omega)
  have hown2 : w1.ownsRow w.heap.size 44 1 v' n (ds.map (Value.int .u64)) := by simpa using hown'
  obtain ⟨g, cap, hv⟩ := own_plain hown2 hne
  rw [hv] at hown2 ⊢
  have hlt := (hown2.lt g rfl).1
  have HL := hide hl
  clear hnews hown hown' hnil hgrow hne hv hl
  go_wp2
  go_ret
  exact ⟨_, _, rfl, owns_came hown2 (unhide HL), fun x hx => by obtain rfl := Option.some.inj hx; exact hlt, hb⟩

set_option maxRecDepth 100000 in
theorem clone23_some (x : Addr) (n c : Nat) (ds : List Int) (w : World) (hl : ds.length = n) (hn1 : n ≤ 65536) (hc : ∀ i, i < n → w.cell? (x.add i) = some (.int .u8 (ds.getD i 0))) :
    Calls Ybaf.prog 7 #[.slice (some x) n c] w fun e w' => Cloned .u8 w w' n ds e := by
  obtain ⟨i0, hi, hz0, hz1, hz2⟩ := info_parts info5
  have hn := eqNil23
  have hown : (w.alloc (.cells #[] 5)).ownsRow w.heap.size 5 1 (.slice (some ⟨w.heap.size, 0, none⟩) 0 0) 0 [] := World.ownsRow_lit w #[] 0 (Nat.le_refl _) (by decide) rfl
  have hnews := news_of hl hc (.cells #[] 5)
  have HC := hide hc
  clear hc
  go_enter Ybaf.func7, Ybaf.ntmps7
  go_wp2_with (at_builtin; refine wpList_append_own _ rfl _ _ 23 rfl w.heap.size 5 i0 (.int .u8 0) 1 1 Ybaf.underlying23 hi hz0 hz1 hz2 rfl (by decide) _ _ _ rfl hown x n c (ds.map (Value.int .u8)) rfl (by simp [hl]) hnews (ints_oneCell _ _) (by unfold maxLen; omega) (by omega) (by simp) ?_)
  intro v' w1 hown' hgrow hnil
  have hne : v' ≠ .slice none 0 0 := hnil
  have hb : Below w.heap.size w w1 := ((Below.refl _ _).alloc (Nat.le_refl _) _).grown hgrow (by simp) (fun k hk => by simp [Value.ownBlock] at hk; omega)
  have hown2 : w1.ownsRow w.heap.size 5 1 v' n (ds.map (Value.int .u8)) := by simpa using hown'
  obtain ⟨g, cap, hv⟩ := own_plain hown2 hne
  rw [hv] at hown2 ⊢
  have hlt := (hown2.lt g rfl).1
  have HL := hide hl
  clear hnews hown hown' hnil hgrow hne hv hl
  go_wp2
  go_ret
  exact ⟨_, _, rfl, owns_came hown2 (unhide HL), fun x hx => by obtain rfl := Option.some.inj hx; exact hlt, hb⟩

theorem clone22_nil (w : World) : Calls Ybaf.prog 8 #[.slice none 0 0] w fun e w' => e = .returned (.slice none 0 0) ∧ w' = w := by
  have hn := eqNil22
  go_enter Ybaf.func8, Ybaf.ntmps8
  go_wp2
  go_ret
  exact ⟨rfl, rfl⟩
theorem clone23_nil (w : World) : Calls Ybaf.prog 7 #[.slice none 0 0] w fun e w' => e = .returned (.slice none 0 0) ∧ w' = w := by
  have hn := eqNil23
  go_enter Ybaf.func7, Ybaf.ntmps7
  go_wp2
  go_ret
  exact ⟨rfl, rfl⟩

theorem clone22_any (a : Option Addr) (n c : Nat) (D : List Int) (w : World) (hn : n ≤ 1024) (h : Came .u64 w a n c D) :
    Calls Ybaf.prog 8 #[.slice a n c] w fun e w' => Cloned .u64 w w' n D e := by
  rcases h.2 with ⟨rfl, rfl, rfl⟩ | ⟨x, rfl, hc⟩
  · refine (clone22_nil w).mono ?_
    rintro e w' ⟨rfl, rfl⟩
    exact ⟨_, _, rfl, h, fun x hx => by simp at hx, Below.refl _ _⟩
  · exact clone22_some x n c D w h.1 hn hc
theorem clone23_any (a : Option Addr) (n c : Nat) (D : List Int) (w : World) (hn : n ≤ 65536) (h : Came .u8 w a n c D) :
    Calls Ybaf.prog 7 #[.slice a n c] w fun e w' => Cloned .u8 w w' n D e := by
  rcases h.2 with ⟨rfl, rfl, rfl⟩ | ⟨x, rfl, hc⟩
  · refine (clone23_nil w).mono ?_
    rintro e w' ⟨rfl, rfl⟩
    exact ⟨_, _, rfl, h, fun x hx => by simp at hx, Below.refl _ _⟩
  · exact clone23_some x n c D w h.1 hn hc

/-- string(b). -/
theorem conv_any (w : World) (a : Option Addr) (n c : Nat) (D : List Int) (h : Came .u8 w a n c D) : (convert 23 9 (.slice a n c)).run Ybaf.prog w = .ok (.string (strOfNums D)) w := by
  rcases h.2 with ⟨rfl, rfl, rfl⟩ | ⟨x, rfl, hc⟩
  · have : D = [] := List.eq_nil_of_length_eq_zero h.1
    subst this
    exact run_convert_bytes_nil w 23 5 Ybaf.underlying23 Ybaf.underlying5 0 0 9 Ybaf.underlying9
  · by_cases h0 : n = 0
    · subst h0
      have : D = [] := List.eq_nil_of_length_eq_zero h.1
      subst this
      have hl : (loadCells x 0).run Ybaf.prog w = .ok #[] w := run_loadCells_list (P := Ybaf.prog) w x [] (fun j v hj => by simp at hj)
      rw [run_convert_bytes_string w 23 9 5 _ 0 c Ybaf.underlying23 Ybaf.underlying5 Ybaf.underlying9]
      simp [Conv.bytesToString, hl]
      rfl
    · obtain ⟨b, o, hx, _, hb⟩ := h.plain (by omega)
      obtain rfl := Option.some.inj hx
      exact run_convert_bytes_arg w 23 5 Ybaf.underlying23 Ybaf.underlying5 b o n c D h.1 hb 9 Ybaf.underlying9

theorem bytesEqual (a1 a2 : Option Addr) (n1 c1 n2 c2 : Nat) (D : List Int) (w : World) (h1 : Came .u8 w a1 n1 c1 D) (h2 : Came .u8 w a2 n2 c2 D) :
    Calls Ybaf.prog 10 #[.slice a1 n1 c1, .slice a2 n2 c2] w fun e w' => e = .returned (.bool true) ∧ w' = w := by
  have k1 := conv_any w a1 n1 c1 D h1
  have k2 := conv_any w a2 n2 c2 D h2
  clear h1 h2
  go_enter Ybaf.func10, Ybaf.ntmps10
  go_wp2
  go_ret
  exact ⟨rfl, rfl⟩

theorem equal_zero (a1 a2 : Option Addr) (c1 c2 : Nat) (w : World) : Calls Ybaf.prog 11 #[.slice a1 0 c1, .slice a2 0 c2] w fun e w' => e = .returned (.bool true) ∧ ∃ n, w' = w.drewN n := by
  go_enter Ybaf.func11, Ybaf.ntmps11
  go_wp2
  refine wp_loop_rounds 1 ?_
  rw [rounds_succ]
  go_wp2
  go_ret
  exact ⟨rfl, 0, rfl⟩

theorem equal_len (a1 a2 : Option Addr) (n1 n2 c1 c2 : Nat) (w : World) (hne : (n1 : Int) ≠ n2) (_h1 : n1 ≤ 1024) (_h2 : n2 ≤ 1024) : Calls Ybaf.prog 11 #[.slice a1 n1 c1, .slice a2 n2 c2] w fun e w' => e = .returned (.bool false) ∧ ∃ n, w' = w.drewN n := by
  go_enter Ybaf.func11, Ybaf.ntmps11
  go_wp2
  go_ret
  exact ⟨rfl, 0, rfl⟩

set_option maxRecDepth 100000 in
theorem equal_pos (b1 b2 o1 o2 n c1 c2 : Nat) (ds es : List Int) (w : World) (hn : n ≤ 1024) (h1 : ∀ i, i < n → w.cell? ⟨b1, o1 + i, none⟩ = some (.int .u64 (ds.getD i 0))) (h2 : ∀ i, i < n → w.cell? ⟨b2, o2 + i, none⟩ = some (.int .u64 (es.getD i 0))) :
    Calls Ybaf.prog 11 #[.slice (some ⟨b1, o1, none⟩) n c1, .slice (some ⟨b2, o2, none⟩) n c2] w fun e w' => ∃ b, e = .returned (.bool b) ∧ (ds = es → b = true) ∧ ∃ n, w' = w.drewN n := by
  have H1 := hide h1
  have H2 := hide h2
  clear h1 h2
  go_enter Ybaf.func11, Ybaf.ntmps11
  go_wp2
  go_loopw [13] (fun i wr => ∃ k q : Nat, k ≤ n ∧ i = .int .i64 k ∧ wr = w.drewN q) (fun i _ => n - (intOf i).toNat)
  case atStart => exact ⟨0, 0, Nat.zero_le _, rfl, rfl⟩
  case round =>
    obtain ⟨k, q, hk, rfl, rfl⟩ := hrel
    by_cases hlt : k < n
    · have g1 := unhide H1 k hlt
      have g2 := unhide H2 k hlt
      have hlt' : (k : Int) < (n : Int) := by omega
      have hk0 : (0 : Int) ≤ (k : Int) := by omega
      obtain ⟨d1, hd1⟩ : ∃ d, d = ds.getD k 0 := ⟨_, rfl⟩
      obtain ⟨d2, hd2⟩ : ∃ d, d = es.getD k 0 := ⟨_, rfl⟩
      rw [← hd1] at g1
      rw [← hd2] at g2
      have HD1 := hide hd1
      have HD2 := hide hd2
      clear hd1 hd2
      by_cases hdd : d1 = d2
      · subst hdd
        go_wp2
        go_quiet (fail)
        go_wp2
        go_roundw
        case rel => exact ⟨k + 1, _, by omega, by go_num, rfl⟩
        case measure => simp [intOf]; omega
      · go_wp2
        go_quiet (fail)
        go_wp2
        go_ret
        exact ⟨false, rfl, fun e => absurd ((unhide HD1).trans (by rw [e]; exact (unhide HD2).symm)) hdd, _, World.drewN_drewN _ _ _⟩
    · go_wp2
      go_ret
      exact ⟨true, rfl, fun _ => rfl, _, rfl⟩

/-- slices.Equal of two slices that came: an answer; true where they hold the same. -/
theorem equal_any (a1 a2 : Option Addr) (n1 c1 n2 c2 : Nat) (D E : List Int) (w : World) (l1 : n1 ≤ 1024) (l2 : n2 ≤ 1024) (h1 : Came .u64 w a1 n1 c1 D) (h2 : Came .u64 w a2 n2 c2 E) :
    Calls Ybaf.prog 11 #[.slice a1 n1 c1, .slice a2 n2 c2] w fun e w' => ∃ b, e = .returned (.bool b) ∧ (D = E → b = true) ∧ ∃ n, w' = w.drewN n := by
  by_cases hne : n1 = n2
  · subst hne
    by_cases h0 : n1 = 0
    · subst h0
      refine (equal_zero a1 a2 c1 c2 w).mono ?_
      rintro e w' ⟨rfl, hw⟩
      exact ⟨true, rfl, fun _ => rfl, hw⟩
    · obtain ⟨b, o, rfl, _, hb⟩ := h1.plain (by omega)
      obtain ⟨b', o', rfl, _, hb'⟩ := h2.plain (by omega)
      exact equal_pos b b' o o' n1 c1 c2 D E w l1 hb hb'
  · refine (equal_len a1 a2 n1 n2 c1 c2 w (by omega) l1 l2).mono ?_
    rintro e w' ⟨rfl, hw⟩
    exact ⟨false, rfl, fun e => absurd (by rw [← h1.1, ← h2.1, e]) hne, hw⟩
end Go.Proofs.YbulkcebiFmt
