/- The law's walk where checkSkips keeps the register. -/
import Derived.Test.YbulkcebiFmtLaw
import Derived.Test.YbulkcebiFmtSkips2
namespace Go.Proofs.YbulkcebiFmt
open Go.RowKit Go.Extern.Stop Go.Stop Go.Extern

/-- What is known behind a call of checkSkips that kept the register. -/
structure Kept (w w5 : World) (wb : Nat) (fail : Bool) (a1 a3 a4 b1 b3 ga : Option Addr) (n1 c1 d1 n3 c3 d3 n4 c4 gc : Nat) (count : Int) (D1 D3 D4 : List Int) : Prop where
  c : w5.cell? ⟨w.heap.size + 1 + 1 + 1 + 1, 0, none⟩ = some (.int .i64 1)
  g : w5.cell? ⟨w.heap.size + 1 + 1 + 1 + 1 + 1, 0, none⟩ = some (.slice ga n4 gc)
  gr : Came .u8 w5 ga n4 gc D4
  f : w5.cell? ⟨w.heap.size + 1, 0, none⟩ = some (.bool fail)
  n : w5.cell? ⟨w.heap.size, 0, none⟩ = some (.int .i64 count)
  w0 : w5.cell? ⟨wb, 0, none⟩ = some (.bool true)
  w1 : w5.cell? ⟨wb, 1, none⟩ = some (.slice b3 n3 d3)
  w2 : w5.cell? ⟨wb, 2, none⟩ = some (.int .i64 count)
  i1 : Came .u64 w5 a1 n1 c1 D1
  i4 : Came .u8 w5 a4 n4 c4 D4
  j1 : Came .u64 w5 b1 n1 d1 D1
  i3 : Came .u64 w5 a3 n3 c3 D3
  j3 : Came .u64 w5 b3 n3 d3 D3
  bel : Below w.heap.size w w5

theorem after2 {w w4 wx w5 : World} {wb : Nat} {seen fail : Bool} {a1 a3 a4 b1 b3 b4 : Option Addr} {n1 c1 d1 n3 c3 d3 n4 c4 d4 : Nat} {wsk count : Int} {D1 D3 D4 : List Int}
    (R : Rdy w w4 wb seen fail a1 a3 a4 b1 b3 b4 n1 c1 d1 n3 c3 d3 n4 c4 d4 wsk count D1 D3 D4) (h : Ran w4 wx (w.heap.size + 1 + 1 + 1 + 1) (w.heap.size + 1 + 1 + 1 + 1 + 1) n4 D4)
    (hw : w5.heap[wb]? = some (.cells #[.bool true, .slice b3 n3 d3, .int .i64 count] 47 (0, 0))) (m : Mv (fun k => k = wb) wx w5) :
    ∃ ga gc, Kept w w5 wb fail a1 a3 a4 b1 b3 ga n1 c1 d1 n3 c3 d3 n4 c4 gc count D1 D3 D4 := by
  obtain ⟨r1, ⟨ga, gc, r2, r3, r4⟩, mx⟩ := h
  have J := R.job
  have C := J.clo
  have o2 := J.o2
  have wl := R.wbl
  have m5 : Mv (fun k => k = wb ∨ k = w.heap.size + 1 + 1 + 1 + 1 ∨ k = w.heap.size + 1 + 1 + 1 + 1 + 1) w4 w5 := (mx.mono (g := fun k => k = wb ∨ k = w.heap.size + 1 + 1 + 1 + 1 ∨ k = w.heap.size + 1 + 1 + 1 + 1 + 1) (fun _ _ e => .inr e)).trans m (fun _ _ e => .inl e)
  refine ⟨ga, gc, cell_of_one (m.get r1 (by omega)), cell_of_one (m.get r2 (by omega)), r3.mv0 m (fun x hx hn _ => ?_), cell_of_one (m5.get C.f (by omega)), cell_of_one (m5.get C.n (by omega)), cell_at hw, cell_at hw, cell_at hw,
    R.i1.mv0 m5 (fun x hx hn _ => ?_), R.i4.mv0 m5 (fun x hx hn _ => ?_), R.j1.mv0 m5 (fun x hx hn _ => ?_), R.i3.mv0 m5 (fun x hx hn _ => ?_), R.j3.mv0 m5 (fun x hx hn _ => ?_), R.bel.trans ⟨m5.os, m5.tape, m5.output, m5.size, fun k hk => m5.block k (by have := R.bel.size; omega) (by omega)⟩⟩
  · have := r4 x hx; omega
  · have := R.l1 x hx hn; omega
  · have := R.l4 x hx hn; omega
  · have := (R.u1 x hx).1; have := (R.u1 x hx).2 hn; omega
  · have := R.l3 x hx hn; omega
  · have := (R.u3 x hx).1; have := (R.u3 x hx).2 hn; omega

theorem equal_true (a1 a2 : Option Addr) (n c1 c2 : Nat) (D : List Int) (w : World) (l1 : n ≤ 1024) (h1 : Came .u64 w a1 n c1 D) (h2 : Came .u64 w a2 n c2 D) :
    Calls Ybaf.prog 11 #[.slice a1 n c1, .slice a2 n c2] w fun e w' => e = .returned (.bool true) ∧ ∃ m, w' = w.drewN m := by
  refine (equal_any a1 a2 n c1 n c2 D D w l1 l1 h1 h2).mono ?_
  rintro e w' ⟨b, rfl, hb, hw⟩
  obtain rfl := hb rfl
  exact ⟨rfl, hw⟩

set_option maxRecDepth 100000 in
set_option maxHeartbeats 1600000 in
theorem law_ok (seen : Bool) (a1 a3 a4 : Option Addr) (n1 c1 n3 c3 n4 c4 : Nat) (wsk count : Int) (D1 D3 D4 : List Int) (w : World) (h1 : n1 ≤ 1024) (h3 : n3 ≤ 1024) (h4 : n4 ≤ 65536)
    (k1 : Came .u64 w a1 n1 c1 D1) (k3 : Came .u64 w a3 n3 c3 D3) (k4 : Came .u8 w a4 n4 c4 D4) (hok : seen = false ∨ count ≤ wsk) :
    Calls Ybaf.prog 3 #[.bool seen, .slice a1 n1 c1, .int .i64 wsk, .slice a3 n3 c3, .slice a4 n4 c4, .int .i64 count, .bool false] w fun e w' => e = .returned (.bool true) ∧ Below w.heap.size w w' := by
  have hd1 : decide ((1024 : Int) < (n1 : Int)) = false := by simp; omega
  have hd3 : decide ((1024 : Int) < (n3 : Int)) = false := by simp; omega
  have hd : decide ((65536 : Int) < (n4 : Int)) = false := by simp; omega
  have K1 := hide k1
  have K3 := hide k3
  have K4 := hide k4
  have HOK := hide hok
  clear k1 k3 k4 hok
  go_enter Ybaf.func3, Ybaf.ntmps3
  go_wp2_with fail
  refine (new_any _ _).mono ?_
  rintro e w2 ⟨rfl, rfl⟩
  go_wp2_with fail
  refine (clone22_any a1 n1 c1 D1 (boxes w count false) h1 ((unhide K1).mv0 (boxes_mv w count false) (fun _ _ _ _ e => e))).mono ?_
  rintro e w1 ⟨b1, d1, rfl, m1, g1, hb1⟩
  have M1 := hide m1
  have G1 := hide g1
  have B1 := hide hb1
  clear m1 g1 hb1
  go_wp2_with fail
  refine (clone22_any a3 n3 c3 D3 w1 h3 (((unhide K3).mv0 (boxes_mv w count false) (fun _ _ _ _ e => e)).mv0 (Mv.of_below (unhide B1) (fun _ => False)) (fun _ _ _ _ e => e))).mono ?_
  rintro e w2 ⟨b3, d3, rfl, m3, g3, hb2⟩
  have M3 := hide m3
  have G3 := hide g3
  have B2 := hide hb2
  clear m3 g3 hb2
  go_wp2_with fail
  refine (clone23_any a4 n4 c4 D4 w2 h4 ((((unhide K4).mv0 (boxes_mv w count false) (fun _ _ _ _ e => e)).mv0 (Mv.of_below (unhide B1) (fun _ => False)) (fun _ _ _ _ e => e)).mv0 (Mv.of_below (unhide B2) (fun _ => False)) (fun _ _ _ _ e => e))).mono ?_
  rintro e w3 ⟨b4, d4, rfl, m4, g4, hb3⟩
  have R := ready (seen := seen) (wsk := wsk) (unhide K1) (unhide K3) (unhide K4) (unhide B1) (unhide B2) hb3 (unhide M1) (unhide G1) (unhide M3) (unhide G3) m4 g4
  have HR := hide R
  clear R m4 g4 hb3
  go_wp2_with fail
  obtain ⟨w4, hw4⟩ : ∃ w4, w4 = atCall w3 seen (.slice b1 n1 d1) (.slice b3 n3 d3) (.slice b4 n4 d4) wsk := ⟨_, rfl⟩
  have R := unhide HR
  rw [← hw4] at R
  unfold atCall at hw4
  rw [← hw4]
  have HR4 := hide R
  refine (skips_ok _ _ _ _ _ _ _ _ count keyText sentText seen b1 b3 n1 d1 n3 d3 wsk b4 n4 d4 D4 w4 R.job h4 R.j4 (fun x hx => by have := R.u4 x hx; omega) (unhide HOK)).mono ?_
  clear R hw4
  rintro e w5 ⟨rfl, wx, hran, hwat, hmv⟩
  obtain ⟨ga, gc, B⟩ := after2 (unhide HR4) hran hwat hmv
  obtain ⟨q1, q2, q3, q4, q6, q8, q9, q10, q11, q12, q13, i3, j3, q14⟩ := B
  have Q3 := hide q3
  have Q11 := hide q11
  have Q12 := hide q12
  have Q13 := hide q13
  have Q14 := hide q14
  have I3 := hide i3
  have J3 := hide j3
  clear q3 q11 q12 q13 q14 i3 j3 hran hwat hmv
  cases seen with
  | false =>
    go_wp2_with fail
    refine (bytesEqual ga a4 n4 gc n4 c4 D4 w5 (unhide Q3) (unhide Q12)).mono ?_
    rintro e w6 ⟨rfl, rfl⟩
    go_wp2_with fail
    go_quiet ((go_at_call 11; refine Calls.quiet_of (equal_true b3 a3 n3 d3 c3 D3 _ h3 ?_ ?_); exact unhide J3; exact unhide I3))
    go_wp2
    go_ret
    exact ⟨rfl, (unhide Q14).trans ⟨rfl, rfl, rfl, Nat.le_refl _, fun _ _ => rfl⟩⟩
  | true =>
    have hle : count ≤ wsk := by
      rcases unhide HOK with h | h
      · cases h
      · exact h
    by_cases hcw : count = wsk
    · subst hcw
      go_wp2_with fail
      refine (bytesEqual ga a4 n4 gc n4 c4 D4 w5 (unhide Q3) (unhide Q12)).mono ?_
      rintro e w6 ⟨rfl, rfl⟩
      go_wp2_with fail
      refine (equal_any b3 a1 n3 d3 n1 c1 D3 D1 _ h3 h1 (unhide J3) (unhide Q11)).mono ?_
      rintro e w7 ⟨b0, rfl, _, q0, hw7⟩
      have z4 : w7.cell? ⟨w.heap.size + 1, 0, none⟩ = some (.bool false) := by rw [hw7]; exact q4
      have z6 : w7.cell? ⟨w.heap.size, 0, none⟩ = some (.int .i64 count) := by rw [hw7]; exact q6
      have z8 : w7.cell? ⟨w3.heap.size, 0, none⟩ = some (.bool true) := by rw [hw7]; exact q8
      have z9 : w7.cell? ⟨w3.heap.size, 1, none⟩ = some (.slice b3 n3 d3) := by rw [hw7]; exact q9
      have z10 : w7.cell? ⟨w3.heap.size, 2, none⟩ = some (.int .i64 count) := by rw [hw7]; exact q10
      have J7 : Hid (Came .u64 w7 b3 n3 d3 D3) := by rw [hw7]; exact J3
      have I7 : Hid (Came .u64 w7 a3 n3 c3 D3) := by rw [hw7]; exact I3
      have Q7 : Hid (Below w.heap.size w w7) := by rw [hw7]; exact hide ((unhide Q14).trans ⟨rfl, rfl, rfl, Nat.le_refl _, fun _ _ => rfl⟩)
      clear hw7 q1 q2 q4 q6 q8 q9 q10 J3 I3 Q14 Q13 Q12 Q11 Q3
      go_wp2_with fail
      go_quiet ((go_at_call 11; refine Calls.quiet_of (equal_true b3 a3 n3 d3 c3 D3 _ h3 ?_ ?_); exact unhide J7; exact unhide I7))
      go_wp2
      go_ret
      exact ⟨rfl, (unhide Q7).trans ⟨rfl, rfl, rfl, Nat.le_refl _, fun _ _ => rfl⟩⟩
    · have hcb : (count == wsk) = false := by simpa using hcw
      go_wp2_with fail
      refine (bytesEqual ga a4 n4 gc n4 c4 D4 w5 (unhide Q3) (unhide Q12)).mono ?_
      rintro e w6 ⟨rfl, rfl⟩
      go_wp2_with fail
      go_quiet ((go_at_call 11; refine Calls.quiet_of (equal_true b3 a3 n3 d3 c3 D3 _ h3 ?_ ?_); exact unhide J3; exact unhide I3))
      go_wp2
      go_ret
      exact ⟨rfl, (unhide Q14).trans ⟨rfl, rfl, rfl, Nat.le_refl _, fun _ _ => rfl⟩⟩
end Go.Proofs.YbulkcebiFmt
