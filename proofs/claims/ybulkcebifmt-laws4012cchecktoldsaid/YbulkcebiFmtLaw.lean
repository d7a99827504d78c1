/- The law: its set-up, the call of checkSkips, the looks behind it. For every F. -/
import Derived.Test.YbulkcebiFmtSkips
namespace Go.Proofs.YbulkcebiFmt
open Go.RowKit Go.Extern.Stop Go.Stop Go.Extern

set_option maxRecDepth 100000 in
theorem law_big1 (seen fail : Bool) (a1 a3 a4 : Option Addr) (n1 c1 n3 c3 n4 c4 : Nat) (wsk count : Int) (w : World) (hm1 : n1 ≤ 9223372036854775807) (h : 1024 < n1) :
    Calls Ybaf.prog 3 #[.bool seen, .slice a1 n1 c1, .int .i64 wsk, .slice a3 n3 c3, .slice a4 n4 c4, .int .i64 count, .bool fail] w fun e w' => e = .returned (.bool true) ∧ Below w.heap.size w w' := by
  have hi : (1024 : Int) < (n1 : Int) := by omega
  have hd : decide ((1024 : Int) < (n1 : Int)) = true := by simpa using hi
  go_enter Ybaf.func3, Ybaf.ntmps3
  go_wp2
  go_ret
  exact ⟨rfl, ((Below.refl w.heap.size w).alloc (Nat.le_refl _) _).alloc (by simp) _⟩
set_option maxRecDepth 100000 in
theorem law_big2 (seen fail : Bool) (a1 a3 a4 : Option Addr) (n1 c1 n3 c3 n4 c4 : Nat) (wsk count : Int) (w : World) (hm1 : n3 ≤ 9223372036854775807) (h1 : n1 ≤ 1024) (h : 1024 < n3) :
    Calls Ybaf.prog 3 #[.bool seen, .slice a1 n1 c1, .int .i64 wsk, .slice a3 n3 c3, .slice a4 n4 c4, .int .i64 count, .bool fail] w fun e w' => e = .returned (.bool true) ∧ Below w.heap.size w w' := by
  have hd1 : decide ((1024 : Int) < (n1 : Int)) = false := by simp; omega
  have hd : decide ((1024 : Int) < (n3 : Int)) = true := by simp; omega
  go_enter Ybaf.func3, Ybaf.ntmps3
  go_wp2
  go_ret
  exact ⟨rfl, ((Below.refl w.heap.size w).alloc (Nat.le_refl _) _).alloc (by simp) _⟩
set_option maxRecDepth 100000 in
theorem law_big3 (seen fail : Bool) (a1 a3 a4 : Option Addr) (n1 c1 n3 c3 n4 c4 : Nat) (wsk count : Int) (w : World) (hm1 : n4 ≤ 9223372036854775807) (h1 : n1 ≤ 1024) (h3 : n3 ≤ 1024) (h : 65536 < n4) :
    Calls Ybaf.prog 3 #[.bool seen, .slice a1 n1 c1, .int .i64 wsk, .slice a3 n3 c3, .slice a4 n4 c4, .int .i64 count, .bool fail] w fun e w' => e = .returned (.bool true) ∧ Below w.heap.size w w' := by
  have hd1 : decide ((1024 : Int) < (n1 : Int)) = false := by simp; omega
  have hd3 : decide ((1024 : Int) < (n3 : Int)) = false := by simp; omega
  have hd : decide ((65536 : Int) < (n4 : Int)) = true := by simp; omega
  go_enter Ybaf.func3, Ybaf.ntmps3
  go_wp2
  go_ret
  exact ⟨rfl, ((Below.refl w.heap.size w).alloc (Nat.le_refl _) _).alloc (by simp) _⟩

theorem new_any (s : ByteArray) (w : World) : Calls Ybaf.prog 5 #[.string s] w fun e w' => e = .returned (.iface 57 (.pointer (some ⟨w.heap.size, 0, none⟩))) ∧ w' = w.alloc (.cells #[.string s] 59) := by
  go_enter Ybaf.func5, Ybaf.ntmps5
  go_wp2
  go_ret
  exact ⟨rfl, rfl⟩

/-- The sentinel's text; the job's key. -/
def sentText : ByteArray := ⟨#[122, 122, 115, 52, 48, 49, 50, 99, 32, 99, 111, 117, 110, 116, 101, 114, 32, 102, 97, 105, 108, 101, 100]⟩
def keyText : ByteArray := ⟨#[106, 111, 98, 47, 122, 122]⟩
def jobCells (N : Nat) : Array Value := #[.nilIface, .nilIface, .string ⟨#[]⟩, .string keyText, .string ⟨#[]⟩, .slice none 0 0, .slice none 0 0, .slice none 0 0, .string ⟨#[]⟩, .slice none 0 0, .nilFunc, .nilFunc, .nilFunc, .nilFunc, .bool false,
  .func (.func 6) #[] #[.pointer (some ⟨N + 1 + 1 + 1 + 1, 0, none⟩), .pointer (some ⟨N + 1 + 1 + 1 + 1 + 1, 0, none⟩), .pointer (some ⟨N + 1, 0, none⟩), .pointer (some ⟨N + 1 + 1 + 1, 0, none⟩), .pointer (some ⟨N, 0, none⟩)], .int .i64 0, .int .i64 0, .nilIface]
/-- The world behind the seven boxes. -/
def boxes (w : World) (count : Int) (fail : Bool) : World :=
  ((((((w.alloc (.cells #[.int .i64 count] 2)).alloc (.cells #[.bool fail] 4)).alloc (.cells #[.string sentText] 59)).alloc (.cells #[.iface 57 (.pointer (some ⟨w.heap.size + 1 + 1, 0, none⟩))] 25)).alloc (.cells #[.int .i64 0] 3)).alloc (.cells #[.slice none 0 0] 23)).alloc (.cells (jobCells w.heap.size) 42)

theorem boxes_size (w : World) (count : Int) (fail : Bool) : (boxes w count fail).heap.size = w.heap.size + 7 := by simp [boxes]
theorem boxes_mv (w : World) (count : Int) (fail : Bool) : Mv (fun _ => False) w (boxes w count fail) :=
  ((((((Mv.alloc w (fun _ => False) _).trans (Mv.alloc _ _ _) (fun _ _ e => e)).trans (Mv.alloc _ _ _) (fun _ _ e => e)).trans (Mv.alloc _ _ _) (fun _ _ e => e)).trans (Mv.alloc _ _ _) (fun _ _ e => e)).trans (Mv.alloc _ _ _) (fun _ _ e => e)).trans (Mv.alloc _ _ _) (fun _ _ e => e)
theorem boxes_heap (w : World) (count : Int) (fail : Bool) : (boxes w count fail).heap = ((((((w.heap.push (.cells #[.int .i64 count] 2)).push (.cells #[.bool fail] 4)).push (.cells #[.string sentText] 59)).push (.cells #[.iface 57 (.pointer (some ⟨w.heap.size + 1 + 1, 0, none⟩))] 25)).push (.cells #[.int .i64 0] 3)).push (.cells #[.slice none 0 0] 23)).push (.cells (jobCells w.heap.size) 42) := rfl
theorem boxes_clo (w : World) (count : Int) (fail : Bool) : Clo (boxes w count fail) (w.heap.size + 1 + 1 + 1 + 1) (w.heap.size + 1 + 1 + 1 + 1 + 1) (w.heap.size + 1) (w.heap.size + 1 + 1 + 1) w.heap.size fail ⟨w.heap.size + 1 + 1, 0, none⟩ count := by
  refine ⟨?_, ?_, ?_, ?_, ?_, by omega, by omega, by omega, by omega⟩ <;> (rw [boxes_heap]; simp only [Array.getElem?_push, Array.size_push]; repeat (first | rw [if_pos trivial] | rw [if_neg (by omega)]))
theorem boxes_sent (w : World) (count : Int) (fail : Bool) : (boxes w count fail).heap[w.heap.size + 1 + 1]? = some (.cells #[.string sentText] 59 (0, 0)) := by
  rw [boxes_heap]; simp only [Array.getElem?_push, Array.size_push]; repeat (first | rw [if_pos trivial] | rw [if_neg (by omega)])
theorem boxes_job (w : World) (count : Int) (fail : Bool) : (boxes w count fail).heap[w.heap.size + 1 + 1 + 1 + 1 + 1 + 1]? = some (.cells (jobCells w.heap.size) 42 (0, 0)) := by
  rw [boxes_heap]; simp only [Array.getElem?_push, Array.size_push]; repeat (first | rw [if_pos trivial] | rw [if_neg (by omega)])

/-- The world in which checkSkips is called. -/
def atCall (w3 : World) (seen : Bool) (v1 v3 v4 : Value) (wsk : Int) : World := (w3.alloc (.cells #[.bool seen, v1, .int .i64 wsk] 47)).alloc (.cells #[.int .u64 0, v3, v4, .int .u64 0, .slice none 0 0] 50)

theorem Came.mv0 {k : IntKind} {f : Nat → Prop} {w w' : World} {a : Option Addr} {n c : Nat} {D : List Int} (h : Came k w a n c D) (hm : Mv f w w') (hf : ∀ x, a = some x → 0 < n → x.block < w.heap.size → ¬ f x.block) : Came k w' a n c D := by
  by_cases h0 : n = 0
  · subst h0
    refine ⟨h.1, ?_⟩
    rcases h.2 with h | ⟨x, hx, _⟩
    · exact .inl h
    · exact .inr ⟨x, hx, fun i hi => absurd hi (by omega)⟩
  · exact h.mv hm (fun x hx hl => hf x hx (by omega) hl)
theorem Came.low {k : IntKind} {w : World} {a : Option Addr} {n c : Nat} {D : List Int} (h : Came k w a n c D) (x : Addr) (hx : a = some x) (hn : 0 < n) : x.block < w.heap.size := by
  obtain ⟨b, o, e, hb, _⟩ := h.plain hn
  rw [e] at hx
  obtain rfl := Option.some.inj hx
  exact hb

/-- All that is known when checkSkips is called. -/
structure Rdy (w w4 : World) (wb : Nat) (seen fail : Bool) (a1 a3 a4 b1 b3 b4 : Option Addr) (n1 c1 d1 n3 c3 d3 n4 c4 d4 : Nat) (wsk count : Int) (D1 D3 D4 : List Int) : Prop where
  job : Job w4 (w.heap.size + 1 + 1 + 1 + 1 + 1 + 1) wb (w.heap.size + 1 + 1 + 1 + 1) (w.heap.size + 1 + 1 + 1 + 1 + 1) (w.heap.size + 1) (w.heap.size + 1 + 1 + 1) w.heap.size fail ⟨w.heap.size + 1 + 1, 0, none⟩ count keyText sentText seen (.slice b1 n1 d1) wsk
  i1 : Came .u64 w4 a1 n1 c1 D1
  i3 : Came .u64 w4 a3 n3 c3 D3
  i4 : Came .u8 w4 a4 n4 c4 D4
  j1 : Came .u64 w4 b1 n1 d1 D1
  j3 : Came .u64 w4 b3 n3 d3 D3
  j4 : Came .u8 w4 b4 n4 d4 D4
  l1 : ∀ x, a1 = some x → 0 < n1 → x.block < w.heap.size
  l3 : ∀ x, a3 = some x → 0 < n3 → x.block < w.heap.size
  l4 : ∀ x, a4 = some x → 0 < n4 → x.block < w.heap.size
  u1 : ∀ x, b1 = some x → w.heap.size + 7 ≤ x.block ∧ (0 < n1 → x.block < wb)
  u3 : ∀ x, b3 = some x → w.heap.size + 7 ≤ x.block ∧ (0 < n3 → x.block < wb)
  u4 : ∀ x, b4 = some x → w.heap.size + 7 ≤ x.block
  bel : Below w.heap.size w w4
  wbl : wb < w4.heap.size

theorem ready {w w1 w2 w3 : World} {seen fail : Bool} {a1 a3 a4 b1 b3 b4 : Option Addr} {n1 c1 d1 n3 c3 d3 n4 c4 d4 : Nat} {wsk count : Int} {D1 D3 D4 : List Int}
    (k1 : Came .u64 w a1 n1 c1 D1) (k3 : Came .u64 w a3 n3 c3 D3) (k4 : Came .u8 w a4 n4 c4 D4)
    (hb1 : Below (boxes w count fail).heap.size (boxes w count fail) w1) (hb2 : Below w1.heap.size w1 w2) (hb3 : Below w2.heap.size w2 w3)
    (m1 : Came .u64 w1 b1 n1 d1 D1) (g1 : ∀ x, b1 = some x → (boxes w count fail).heap.size ≤ x.block) (m3 : Came .u64 w2 b3 n3 d3 D3) (g3 : ∀ x, b3 = some x → w1.heap.size ≤ x.block) (m4 : Came .u8 w3 b4 n4 d4 D4) (g4 : ∀ x, b4 = some x → w2.heap.size ≤ x.block) :
    Rdy w (atCall w3 seen (.slice b1 n1 d1) (.slice b3 n3 d3) (.slice b4 n4 d4) wsk) w3.heap.size seen fail a1 a3 a4 b1 b3 b4 n1 c1 d1 n3 c3 d3 n4 c4 d4 wsk count D1 D3 D4 := by
  have hs := boxes_size w count fail
  have s1 := hb1.size
  have s2 := hb2.size
  have s3 := hb3.size
  have mb := boxes_mv w count fail
  have e1 := Mv.of_below hb1 (fun _ => False)
  have e2 := Mv.of_below hb2 (fun _ => False)
  have e3 := Mv.of_below hb3 (fun _ => False)
  obtain ⟨w4, hw4⟩ : ∃ w4, w4 = atCall w3 seen (.slice b1 n1 d1) (.slice b3 n3 d3) (.slice b4 n4 d4) wsk := ⟨_, rfl⟩
  have e4 : Mv (fun _ => False) w3 w4 := by rw [hw4]; exact (Mv.alloc w3 _ _).trans (Mv.alloc _ _ _) (fun _ _ e => e)
  have e34 := e3.trans e4 (fun _ _ e => e)
  have e24 := e2.trans e34 (fun _ _ e => e)
  have e14 := e1.trans e24 (fun _ _ e => e)
  have e04 := mb.trans e14 (fun _ _ e => e)
  have hwb : w4.heap[w3.heap.size]? = some (.cells #[.bool seen, .slice b1 n1 d1, .int .i64 wsk] 47 (0, 0)) := by
    rw [hw4]; unfold atCall
    rw [Below.heap_alloc _ _ _ (by simp)]
    exact heap_alloc_new w3 _
  have hj := e14.get (boxes_job w count fail) (fun e => e)
  rw [← hw4]
  refine ⟨⟨(boxes_clo w count fail).mv e14 (fun _ _ e => e), cell_at hj, cell_at hj, cell_at hj, hwb, e14.get (boxes_sent w count fail) (fun e => e), rfl, by omega, by omega, by simp only; omega⟩,
    k1.mv0 e04 (fun _ _ _ _ e => e), k3.mv0 e04 (fun _ _ _ _ e => e), k4.mv0 e04 (fun _ _ _ _ e => e), m1.mv0 e24 (fun _ _ _ _ e => e), m3.mv0 e34 (fun _ _ _ _ e => e), m4.mv0 e4 (fun _ _ _ _ e => e),
    k1.low, k3.low, k4.low, fun x hx => ⟨by have := g1 x hx; omega, fun hn => by have := m1.low x hx hn; omega⟩, fun x hx => ⟨by have := g3 x hx; omega, fun hn => by have := m3.low x hx hn; omega⟩, fun x hx => by have := g4 x hx; omega, e04.below (Nat.le_refl _) (fun _ _ e => e), lt_of_some hwb⟩

/-- What is known behind a call of checkSkips that left the watch alone. -/
structure Aft (w w5 : World) (wb : Nat) (seen fail : Bool) (a1 a4 b1 ga : Option Addr) (n1 c1 d1 n4 c4 gc : Nat) (wsk count : Int) (D1 D4 : List Int) : Prop where
  c : w5.cell? ⟨w.heap.size + 1 + 1 + 1 + 1, 0, none⟩ = some (.int .i64 1)
  g : w5.cell? ⟨w.heap.size + 1 + 1 + 1 + 1 + 1, 0, none⟩ = some (.slice ga n4 gc)
  gr : Came .u8 w5 ga n4 gc D4
  f : w5.cell? ⟨w.heap.size + 1, 0, none⟩ = some (.bool fail)
  s : w5.cell? ⟨w.heap.size + 1 + 1 + 1, 0, none⟩ = some (.iface 57 (.pointer (some ⟨w.heap.size + 1 + 1, 0, none⟩)))
  n : w5.cell? ⟨w.heap.size, 0, none⟩ = some (.int .i64 count)
  sb : w5.heap[w.heap.size + 1 + 1]? = some (.cells #[.string sentText] 59 (0, 0))
  w0 : w5.cell? ⟨wb, 0, none⟩ = some (.bool seen)
  w1 : w5.cell? ⟨wb, 1, none⟩ = some (.slice b1 n1 d1)
  w2 : w5.cell? ⟨wb, 2, none⟩ = some (.int .i64 wsk)
  i1 : Came .u64 w5 a1 n1 c1 D1
  i4 : Came .u8 w5 a4 n4 c4 D4
  j1 : Came .u64 w5 b1 n1 d1 D1
  bel : Below w.heap.size w w5

theorem after {w w4 w5 : World} {wb : Nat} {seen fail : Bool} {a1 a3 a4 b1 b3 b4 : Option Addr} {n1 c1 d1 n3 c3 d3 n4 c4 d4 : Nat} {wsk count : Int} {D1 D3 D4 : List Int}
    (R : Rdy w w4 wb seen fail a1 a3 a4 b1 b3 b4 n1 c1 d1 n3 c3 d3 n4 c4 d4 wsk count D1 D3 D4) (h : Ran w4 w5 (w.heap.size + 1 + 1 + 1 + 1) (w.heap.size + 1 + 1 + 1 + 1 + 1) n4 D4) :
    ∃ ga gc, Aft w w5 wb seen fail a1 a4 b1 ga n1 c1 d1 n4 c4 gc wsk count D1 D4 := by
  obtain ⟨r1, ⟨ga, gc, r2, r3, r4⟩, m⟩ := h
  have J := R.job
  have C := J.clo
  have o2 := J.o2
  have hw := m.get J.watch (by omega)
  refine ⟨ga, gc, cell_of_one r1, cell_of_one r2, r3, cell_of_one (m.get C.f (by omega)), cell_of_one (m.get C.s (by omega)), cell_of_one (m.get C.n (by omega)), m.get J.sent (by omega), cell_at hw, cell_at hw, cell_at hw, R.i1.mv0 m (fun x hx hn _ => ?_), R.i4.mv0 m (fun x hx hn _ => ?_), R.j1.mv0 m (fun x hx hn _ => ?_), R.bel.trans ⟨m.os, m.tape, m.output, m.size, fun k hk => m.block k (by have := R.bel.size; omega) (by omega)⟩⟩
  · have := R.l1 x hx hn; omega
  · have := R.l4 x hx hn; omega
  · have := (R.u1 x hx).1; omega
end Go.Proofs.YbulkcebiFmt
