/- The law's walk in its three outcomes. For every F. -/
import Derived.Test.YbulkcebiFmtLaw
import Derived.Test.YbulkcebiFmtSkips2
namespace Go.Proofs.YbulkcebiFmt
open Go.RowKit Go.Extern.Stop Go.Stop Go.Extern

set_option maxRecDepth 100000 in
set_option maxHeartbeats 1600000 in
theorem law_fail (F : Interp) (seen : Bool) (a1 a3 a4 : Option Addr) (n1 c1 n3 c3 n4 c4 : Nat) (wsk count : Int) (D1 D3 D4 : List Int) (w : World) (hF : F.answers w.tape) (h1 : n1 ≤ 1024) (h3 : n3 ≤ 1024) (h4 : n4 ≤ 65536)
    (k1 : Came .u64 w a1 n1 c1 D1) (k3 : Came .u64 w a3 n3 c3 D3) (k4 : Came .u8 w a4 n4 c4 D4) :
    Calls Ybaf.prog 3 #[.bool seen, .slice a1 n1 c1, .int .i64 wsk, .slice a3 n3 c3, .slice a4 n4 c4, .int .i64 count, .bool true] w fun e w' => e = .returned (.bool true) ∧ Below w.heap.size w w' := by
  have hd1 : decide ((1024 : Int) < (n1 : Int)) = false := by simp; omega
  have hd3 : decide ((1024 : Int) < (n3 : Int)) = false := by simp; omega
  have hd : decide ((65536 : Int) < (n4 : Int)) = false := by simp; omega
  have K1 := hide k1
  have K3 := hide k3
  have K4 := hide k4
  clear k1 k3 k4
  go_enter Ybaf.func3, Ybaf.ntmps3
  go_wp2_with fail
  refine (new_any _ _).mono ?_
  rintro e w2 ⟨rfl, rfl⟩
  go_wp2_with fail
  refine (clone22_any a1 n1 c1 D1 (boxes w count true) h1 ((unhide K1).mv0 (boxes_mv w count true) (fun _ _ _ _ e => e))).mono ?_
  rintro e w1 ⟨b1, d1, rfl, m1, g1, hb1⟩
  have M1 := hide m1
  have G1 := hide g1
  have B1 := hide hb1
  clear m1 g1 hb1
  go_wp2_with fail
  refine (clone22_any a3 n3 c3 D3 w1 h3 (((unhide K3).mv0 (boxes_mv w count true) (fun _ _ _ _ e => e)).mv0 (Mv.of_below (unhide B1) (fun _ => False)) (fun _ _ _ _ e => e))).mono ?_
  rintro e w2 ⟨b3, d3, rfl, m3, g3, hb2⟩
  have M3 := hide m3
  have G3 := hide g3
  have B2 := hide hb2
  clear m3 g3 hb2
  go_wp2_with fail
  refine (clone23_any a4 n4 c4 D4 w2 h4 ((((unhide K4).mv0 (boxes_mv w count true) (fun _ _ _ _ e => e)).mv0 (Mv.of_below (unhide B1) (fun _ => False)) (fun _ _ _ _ e => e)).mv0 (Mv.of_below (unhide B2) (fun _ => False)) (fun _ _ _ _ e => e))).mono ?_
  rintro e w3 ⟨b4, d4, rfl, m4, g4, hb3⟩
  have R := ready (seen := seen) (wsk := wsk) (unhide K1) (unhide K3) (unhide K4) (unhide B1) (unhide B2) hb3 (unhide M1) (unhide G1) (unhide M3) (unhide G3) m4 g4
  have HR := hide R
  clear R m4 g4 hb3
  go_wp2_with fail
  obtain ⟨w4, hw4⟩ : ∃ w4, w4 = atCall w3 seen (.slice b1 n1 d1) (.slice b3 n3 d3) (.slice b4 n4 d4) wsk := ⟨_, rfl⟩
  have R := unhide HR
  rw [← hw4] at R
  have hF4 : F.answers w4.tape := by rw [R.bel.tape]; exact hF
  unfold atCall at hw4
  rw [← hw4]
  have HR4 := hide R
  refine (skips_fail F _ _ _ _ _ _ _ _ _ keyText sentText seen _ (.slice b3 n3 d3) wsk b4 n4 d4 D4 w4 hF4 R.job h4 R.j4 (fun x hx => by have := R.u4 x hx; omega)).mono ?_
  clear R hw4
  rintro e w5 ⟨pb, rfl, hcell, hran⟩
  obtain ⟨ga, gc, A⟩ := after (unhide HR4) hran
  obtain ⟨q1, q2, q3, q4, q5, q6, q7, q8, q9, q10, q11, q12, q13, q14⟩ := A
  have Q3 := hide q3
  have Q7 := hide q7
  have Q11 := hide q11
  have Q12 := hide q12
  have Q13 := hide q13
  have Q14 := hide q14
  clear q3 q7 q11 q12 q13 q14 hran
  cases seen
  all_goals
    go_wp2_with fail
    refine (bytesEqual ga a4 n4 gc n4 c4 D4 w5 (unhide Q3) (unhide Q12)).mono ?_
    rintro e w6 ⟨rfl, rfl⟩
    go_wp2_with fail
    refine (equal_any b1 a1 n1 d1 n1 c1 D1 D1 _ h1 h1 (unhide Q13) (unhide Q11)).mono ?_
    rintro e w7 ⟨b, rfl, hbt, q, rfl⟩
    obtain rfl := hbt rfl
    go_wp2_with fail
    refine (is_wrap_same pb 0 _ _ (by exact hcell)).mono ?_
    rintro e w8 ⟨rfl, rfl⟩
    go_wp2
    go_ret
    exact ⟨rfl, (unhide Q14).trans ⟨rfl, rfl, rfl, Nat.le_refl _, fun _ _ => rfl⟩⟩

set_option maxRecDepth 100000 in
set_option maxHeartbeats 1600000 in
theorem law_refuse (F : Interp) (a1 a3 a4 : Option Addr) (n1 c1 n3 c3 n4 c4 : Nat) (wsk count : Int) (D1 D3 D4 : List Int) (w : World) (hF : F.answers w.tape) (h1 : n1 ≤ 1024) (h3 : n3 ≤ 1024) (h4 : n4 ≤ 65536)
    (k1 : Came .u64 w a1 n1 c1 D1) (k3 : Came .u64 w a3 n3 c3 D3) (k4 : Came .u8 w a4 n4 c4 D4) (hgt : wsk < count) :
    Calls Ybaf.prog 3 #[.bool true, .slice a1 n1 c1, .int .i64 wsk, .slice a3 n3 c3, .slice a4 n4 c4, .int .i64 count, .bool false] w fun e w' => e = .returned (.bool true) ∧ Below w.heap.size w w' := by
  have hd1 : decide ((1024 : Int) < (n1 : Int)) = false := by simp; omega
  have hd3 : decide ((1024 : Int) < (n3 : Int)) = false := by simp; omega
  have hd : decide ((65536 : Int) < (n4 : Int)) = false := by simp; omega
  have K1 := hide k1
  have K3 := hide k3
  have K4 := hide k4
  clear k1 k3 k4
  go_enter Ybaf.func3, Ybaf.ntmps3
  go_wp2_with fail
  refine (new_any _ _).mono ?_
  rintro e w2 ⟨rfl, rfl⟩
  go_wp2_with fail
  refine (clone22_any a1 n1 c1 D1 (boxes w count false) h1 ((unhide K1).mv0 (boxes_mv w count false) (fun _ _ _ _ e => e))).mono ?_
  rintro e w1 ⟨b1, d1, rfl, m1, g1, hb1⟩
  have M1 := hide m1
  have G1 := hide g1
  have B1 := hide hb1
  clear m1 g1 hb1
  go_wp2_with fail
  refine (clone22_any a3 n3 c3 D3 w1 h3 (((unhide K3).mv0 (boxes_mv w count false) (fun _ _ _ _ e => e)).mv0 (Mv.of_below (unhide B1) (fun _ => False)) (fun _ _ _ _ e => e))).mono ?_
  rintro e w2 ⟨b3, d3, rfl, m3, g3, hb2⟩
  have M3 := hide m3
  have G3 := hide g3
  have B2 := hide hb2
  clear m3 g3 hb2
  go_wp2_with fail
  refine (clone23_any a4 n4 c4 D4 w2 h4 ((((unhide K4).mv0 (boxes_mv w count false) (fun _ _ _ _ e => e)).mv0 (Mv.of_below (unhide B1) (fun _ => False)) (fun _ _ _ _ e => e)).mv0 (Mv.of_below (unhide B2) (fun _ => False)) (fun _ _ _ _ e => e))).mono ?_
  rintro e w3 ⟨b4, d4, rfl, m4, g4, hb3⟩
  have R := ready (seen := true) (wsk := wsk) (unhide K1) (unhide K3) (unhide K4) (unhide B1) (unhide B2) hb3 (unhide M1) (unhide G1) (unhide M3) (unhide G3) m4 g4
  have HR := hide R
  clear R m4 g4 hb3
  go_wp2_with fail
  obtain ⟨w4, hw4⟩ : ∃ w4, w4 = atCall w3 true (.slice b1 n1 d1) (.slice b3 n3 d3) (.slice b4 n4 d4) wsk := ⟨_, rfl⟩
  have R := unhide HR
  rw [← hw4] at R
  have hF4 : F.answers w4.tape := by rw [R.bel.tape]; exact hF
  unfold atCall at hw4
  rw [← hw4]
  have HR4 := hide R
  refine (skips_refuse F _ _ _ _ _ _ _ _ count keyText sentText b1 b3 n1 d1 n3 d3 wsk b4 n4 d4 D4 w4 hF4 R.job h4 R.j4 (fun x hx => by have := R.u4 x hx; omega) hgt).mono ?_
  have hsz := R.bel.size
  have hwl := R.wbl
  have o2 := R.job.o2
  clear R hw4
  rintro e w5 ⟨pb, xt, rfl, hpb, hpl, hran⟩
  obtain ⟨ga, gc, A⟩ := after (unhide HR4) hran
  obtain ⟨q1, q2, q3, q4, q5, q6, q7, q8, q9, q10, q11, q12, q13, q14⟩ := A
  have hpne : pb ≠ w.heap.size + 1 + 1 := by omega
  have hane : (⟨pb, 0, none⟩ : Addr) ≠ ⟨w.heap.size + 1 + 1, 0, none⟩ := fun e => hpne (congrArg Addr.block e)
  have Q3 := hide q3
  have Q7 := hide q7
  have Q11 := hide q11
  have Q12 := hide q12
  have Q13 := hide q13
  have Q14 := hide q14
  have QP := hide hpb
  have QN := hide hane
  clear q3 q7 q11 q12 q13 q14 hran hpb hane hpne o2
  go_wp2_with fail
  refine (bytesEqual ga a4 n4 gc n4 c4 D4 w5 (unhide Q3) (unhide Q12)).mono ?_
  rintro e w6 ⟨rfl, rfl⟩
  go_wp2_with fail
  refine (equal_any b1 a1 n1 d1 n1 c1 D1 D1 _ h1 h1 (unhide Q13) (unhide Q11)).mono ?_
  rintro e w7 ⟨b, rfl, hbt, q, rfl⟩
  obtain rfl := hbt rfl
  go_wp2_with fail
  refine (is_other _ _ _ _ _ _ _ (unhide QN) (by exact unhide QP) (by exact unhide Q7)).mono ?_
  rintro e w8 ⟨rfl, rfl⟩
  go_wp2
  go_ret
  exact ⟨rfl, (unhide Q14).trans ⟨rfl, rfl, rfl, Nat.le_refl _, fun _ _ => rfl⟩⟩

end Go.Proofs.YbulkcebiFmt
