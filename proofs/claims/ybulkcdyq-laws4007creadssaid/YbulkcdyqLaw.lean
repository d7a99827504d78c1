/- The law's own walk. -/
import Derived.Test.YbulkcdyqAfter
import Derived.WalkSmall
namespace Go.Proofs.Ybulkcdyq
open Go.RowKit

theorem news_one {w : World} {x : Value} {t : TypeId} {n : Nat} (hn : n = w.heap.size) : ∀ j u, [x][j]? = some u → (w.alloc (.cells #[x] t)).cell? ((⟨n, 0, none⟩ : Addr).add j) = some u := by
  subst hn; exact cell_one_new _ _ _

set_option maxRecDepth 100000 in
set_option maxHeartbeats 3200000 in
theorem law_main (ib io : Nat) (ai ad aa : Option Addr) (li ci ld cd la ca ab ao : Nat) (q : Int) (t s : Nat → Int) (D A : List Int) (w : World) (h1 : li ≤ 1024) (h2 : ld ≤ 1024) (h3 : la ≤ 1024) (hq : 0 ≤ q) (hq' : q ≤ 255)
    (hdst : Came w ad ld cd D) (hac : ∀ i, i < la → aa = some ⟨ab, ao, none⟩ ∧ w.cell? ⟨ab, ao + i, none⟩ = some (.int .i64 (A.getD i 0))) (hab : ab ≤ w.heap.size) (hAl : A.length = la)
    (hie : ∀ i, i < li → ai = some ⟨ib, io, none⟩ ∧ w.cell? ⟨ib, io + i * 2, none⟩ = some (.int .u8 (t i)) ∧ w.cell? ⟨ib, io + i * 2 + 1, none⟩ = some (.int .u8 (s i)) ∧ 0 ≤ t i ∧ t i ≤ 255 ∧ 0 ≤ s i ∧ s i ≤ 255) :
    Calls Yba.prog 3 #[.slice ai li ci, .slice ad ld cd, .slice aa la ca, .int .u8 q] w fun e w' => e = .returned (.bool true) ∧ Below w.heap.size w w' := by
  obtain ⟨i0, hi, hz0, hz1, hz2⟩ := info_parts Yba.info3
  obtain ⟨j0, ji, jz0, jz1, jz2⟩ := info_parts Yba.info31
  have HIE := hide hie
  have HDST := hide hdst
  have HAC := hide hac
  clear hie hdst hac
  have d1 : decide (1024 < (li : Int)) = false := by simp; omega
  have d2 : decide (1024 < (ld : Int)) = false := by simp; omega
  have d3 : decide (1024 < (la : Int)) = false := by simp; omega
  go_enter Yba.func3, Yba.ntmps3
  go_wp2_with (at_make; refine wpList_make_full _ rfl _ _ 24 rfl (w.heap.size + 1) 31 j0 _ 4 Yba.underlying24 ji jz0 jz1 _ _ _ _ li rfl rfl rfl rfl (by rw [jz2]; omega) (by unfold maxLen; omega) (by simp) ?_)
  intro w1 hown1 hgrow1
  have HO1 := hide hown1
  have HG1 := hide hgrow1
  clear hown1 hgrow1
  go_wp2
  go_loopw [10, 47] (fun want i wr => ∃ (k : Nat) (f : Nat → Nat), k ≤ li ∧ i = .int .i64 k ∧ R1 w.heap.size li (.slice aa la ca) (tyOf t) (insOf s) w wr k f want (Wn (gd (tyOf t) (insOf s)) k)) (fun _ i _ => li - (intOf i).toNat)
  case atStart =>
    have hs1 := (unhide HG1).size
    simp only [World.size_alloc] at hs1
    have hl1 := ((unhide HO1).lt (w.heap.size + 1) rfl).2
    refine ⟨0, fun _ => 0, Nat.zero_le _, rfl, ?_, by omega, ?_, ?_, fun i hi => absurd hi (by omega), World.ownsRow_nil _ _ _ _⟩
    · exact (((Below.refl _ _).alloc (Nat.le_refl _) _).trans ⟨(unhide HG1).os, (unhide HG1).tape, (unhide HG1).output, (unhide HG1).size, fun k hk => (unhide HG1).block k (by simp; omega) (by simp)⟩)
    · rw [(unhide HG1).block _ (by simp) (by simp)]; exact heap_alloc_new _ _
    · rcases (unhide HO1).2 with ⟨e, _⟩ | ⟨g, cap, cur, e, _, hg, _, _, hcs, _⟩
      · simp at e
      · simp only [Value.slice.injEq, Option.some.injEq, Addr.mk.injEq, and_true, true_and] at e
        obtain ⟨e1, e2⟩ := e
        rw [← e1] at hg
        rw [← e2] at hcs
        exact ⟨cur, hg, hcs, fun i hi => absurd hi (by omega)⟩
  case round =>
    obtain ⟨k, f, hk, rfl, R⟩ := hrel
    by_cases hlt : k < li
    · obtain ⟨hai, ht, hs, hb1, hb2, hb3, hb4⟩ := unhide HIE k hlt
      subst hai
      have hbl : ib < w.heap.size := World.block_lt_of_cell? w _ ht
      have ht' : wr.cell? ⟨ib, io + k * 2, none⟩ = some (.int .u8 (t k)) := by rw [R.bel.cell (by simpa using hbl)]; exact ht
      have hs' : wr.cell? ⟨ib, io + k * 2 + 1, none⟩ = some (.int .u8 (s k)) := by rw [R.bel.cell (by simpa using hbl)]; exact hs
      have hbl' : ib < wr.heap.size := by have := R.size; omega
      have hsz := R.size
      have hrow : w.heap.size + 1 < wr.heap.size := by omega
      have hrow2 : w.heap.size < wr.heap.size := by omega
      have HR := hide R
      clear R ht hs
      obtain ⟨tk, htk⟩ : ∃ tk, tk = t k := ⟨_, rfl⟩
      obtain ⟨sk, hsk⟩ : ∃ sk, sk = s k := ⟨_, rfl⟩
      rw [← htk] at ht' hb1 hb2
      rw [← hsk] at hs' hb3 hb4
      have HT := hide htk
      have HS := hide hsk
      clear htk hsk
      obtain ⟨cur, hcur, hcs, _⟩ := (unhide HR).row
      have x0 : ∃ x, wr.cell? ⟨w.heap.size + 1, k * 4, none⟩ = some x := ⟨_, by rw [cell_at hcur]; exact Array.getElem?_eq_getElem (by omega)⟩
      have x1 : ∃ x, wr.cell? ⟨w.heap.size + 1, k * 4 + 1, none⟩ = some x := ⟨_, by rw [cell_at hcur]; exact Array.getElem?_eq_getElem (by omega)⟩
      have x2 : ∃ x, wr.cell? ⟨w.heap.size + 1, k * 4 + 2, none⟩ = some x := ⟨_, by rw [cell_at hcur]; exact Array.getElem?_eq_getElem (by omega)⟩
      have x3 : ∃ x, wr.cell? ⟨w.heap.size + 1, k * 4 + 3, none⟩ = some x := ⟨_, by rw [cell_at hcur]; exact Array.getElem?_eq_getElem (by omega)⟩
      have z0 : wr.frozen? ⟨w.heap.size + 1, k * 4, none⟩ = false := free_at hcur
      have z1 : wr.frozen? ⟨w.heap.size + 1, k * 4 + 1, none⟩ = false := free_at hcur
      have z2 : wr.frozen? ⟨w.heap.size + 1, k * 4 + 2, none⟩ = false := free_at hcur
      have z3 : wr.frozen? ⟨w.heap.size + 1, k * 4 + 3, none⟩ = false := free_at hcur
      obtain ⟨x0, y0⟩ := x0
      obtain ⟨x1, y1⟩ := x1
      obtain ⟨x2, y2⟩ := x2
      obtain ⟨x3, y3⟩ := x3
      clear hcur hcs
      have Rp0 := (unhide HR).put hlt (.cells #[.int .u8 tk, .int .u8 sk] 26)
      by_cases ht3 : tk % 3 = 0
      · have ety : tyOf t k = 93 := by unfold tyOf; rw [← unhide HT, if_pos ht3]
        by_cases hs2 : sk % 2 = 0
        · have eins : insOf s k = 0 := by unfold insOf; rw [← unhide HS, if_pos hs2]
          have hgood : gd (tyOf t) (insOf s) k = true := by simp [gd, ety, eins]
          rw [ety, eins] at Rp0
          have hownP := Rp0.own
          unfold put4 at hownP
          have HRp := hide Rp0
          have HGD := hide hgood
          have hwl := Wn_le (gd (tyOf t) (insOf s)) k
          obtain ⟨W, hW⟩ : ∃ W, W = Wn (gd (tyOf t) (insOf s)) k := ⟨_, rfl⟩
          rw [← hW] at hownP hwl
          have HWW := hide hW
          clear Rp0 ety eins hgood hW
          go_wp2_with (at_builtin; refine wpList_append_own _ rfl _ _ 23 rfl (w.heap.size + 2) 3 i0 (.int .i64 0) 1 8 Yba.underlying23 hi hz0 hz1 hz2 rfl (by decide) _ _ _ rfl (hownP.alloc _) ⟨wr.heap.size + 2, 0, none⟩ 1 1 [.int .i64 (k : Int)] rfl rfl (news_one (by simp)) (by simp [Value.oneCell']) (by unfold maxLen; omega) (by omega) (by simp; omega) ?_)
          intro v' w2 hown2 hgrow2 _
          have R2 := ((unhide HRp).move (Mv.alloc _ _ _)).app (by rw [← unhide HWW]; exact hown2) hgrow2
          have HR2 := hide R2
          clear R2 hown2 hgrow2 hownP
          go_wp2
          go_roundw
          case rel => exact ⟨k + 1, _, by omega, by go_num, by rw [Wn_yes _ _ (unhide HGD)]; exact unhide HR2⟩
          case measure => simp [intOf]; omega
        · have eins : insOf s k = sk := by unfold insOf; rw [← unhide HS, if_neg hs2]
          have hgood : gd (tyOf t) (insOf s) k = false := by
            have : sk ≠ 0 := by omega
            simp [gd, eins, this]
          rw [ety, eins] at Rp0
          have HRp := hide Rp0
          have HGD := hide hgood
          clear Rp0 ety eins hgood
          go_wp2
          go_roundw
          case rel => exact ⟨k + 1, _, by omega, by go_num, by rw [Wn_no _ _ (unhide HGD)]; exact unhide HRp⟩
          case measure => simp [intOf]; omega
      · have ety : tyOf t k = tk := by unfold tyOf; rw [← unhide HT, if_neg ht3]
        have hne : tk ≠ 93 := by omega
        have hgood : gd (tyOf t) (insOf s) k = false := by simp [gd, ety, hne]
        have hb93 : (tk == 93) = false := by simp [hne]
        have HGD := hide hgood
        by_cases hs2 : sk % 2 = 0
        · have eins : insOf s k = 0 := by unfold insOf; rw [← unhide HS, if_pos hs2]
          rw [ety, eins] at Rp0
          have HRp := hide Rp0
          clear Rp0 ety eins hgood
          go_wp2
          go_roundw
          case rel => exact ⟨k + 1, _, by omega, by go_num, by rw [Wn_no _ _ (unhide HGD)]; exact unhide HRp⟩
          case measure => simp [intOf]; omega
        · have eins : insOf s k = sk := by unfold insOf; rw [← unhide HS, if_neg hs2]
          rw [ety, eins] at Rp0
          have HRp := hide Rp0
          clear Rp0 ety eins hgood
          go_wp2
          go_roundw
          case rel => exact ⟨k + 1, _, by omega, by go_num, by rw [Wn_no _ _ (unhide HGD)]; exact unhide HRp⟩
          case measure => simp [intOf]; omega
    -- THE LOOP IS LEFT
    · obtain rfl : k = li := by omega
      obtain ⟨W, hW⟩ : ∃ W, W = Wn (gd (tyOf t) (insOf s)) k := ⟨_, rfl⟩
      rw [← hW] at R
      have hwl : W.length ≤ k := by rw [hW]; exact Wn_le _ _
      have hu : ∃ ow cw gw, u10 = .slice ow W.length cw ∧ ∀ i, i < W.length → ow = some ⟨gw, 0, none⟩ ∧ wr.cell? ⟨gw, i, none⟩ = some (.int .i64 (W.getD i 0)) ∧ gw < wr.heap.size := by
        have hown := R.own
        rcases hown.2 with ⟨h0, hn0⟩ | ⟨g, cap, cur, h0, _⟩
        · exact ⟨none, 0, 0, by rw [h0, hn0], fun i hi => absurd hi (by omega)⟩
        · refine ⟨some ⟨g, 0, none⟩, cap, g, h0, fun i hi => ⟨rfl, ?_, ?_⟩⟩
          · rw [h0] at hown
            rw [hown.cellAt i (by omega), List.getElem?_map, List.getD_eq_getElem?_getD, List.getElem?_eq_getElem hi]; rfl
          · exact (hown.lt g (by rw [h0]; rfl)).2
      obtain ⟨ow, cw, gw, hu, hwc⟩ := hu
      obtain ⟨r, hr⟩ : ∃ r : Nat, q % ((W.length : Int) + 1) = (r : Int) := ⟨(q % ((W.length : Int) + 1)).toNat, by
        have := Int.emod_nonneg q (show ((W.length : Int) + 1) ≠ 0 by omega); omega⟩
      have hrm : r ≤ W.length := by
        have := Int.emod_lt_of_pos q (show 0 < ((W.length : Int) + 1) by omega); omega
      have hmf : ∀ (fn : Fn) (first cap : Array Value) (w : World), (Instr.makeFunc fn first cap).run Yba.prog w = .ok (.func fn first cap) w := fun _ _ _ _ => rfl
      rw [hu]
      have HR := hide R
      have HWW := hide hW
      have HWC := hide hwc
      have HU := hide hu
      clear R hW hwc hu
      have hcame : Came (boxes wr r) ad ld cd D := (unhide HDST).below ((unhide HR).bel.trans (((boxes_at wr r).2.1.below (Nat.le_refl _) (fun _ _ e => e)).mono (by have := (unhide HR).size; omega))) (Nat.le_refl _)
      have hcl := clone_any ad ld cd D (boxes wr r) h2 hcame
      unfold boxes at hcl
      have HCL := hide hcl
      clear hcame hcl
      go_wp2_with fail
      refine (unhide HCL).mono ?_
      rintro e w2 ⟨od, cdd, rfl, hownd, hbel2⟩
      have hDl : D.length = ld := (unhide HDST).1
      obtain ⟨L2, C2, I2, B2, M2⟩ := setup (w2 := w2) (D := D) (A := A) r (unhide HR) hbel2 (by rw [hDl]; exact hownd) (unhide HAC) hab hAl h3
      have hctx := ctx_any (wr.heap.size + 5) (wr.heap.size + 1 + 1 + 1 + 1) (wr.heap.size + 1 + 1 + 1) wr.heap.size (wr.heap.size + 1 + 1) w.heap.size (wr.heap.size + 1) (w.heap.size + 1) k la ca ab ao aa r A (tyOf t) (insOf s) f (.slice od ld cdd) (.slice none 0 0) D w2 L2 C2 I2 h1 (by omega)
      unfold msg at hctx
      rw [← unhide HWW] at hctx
      have HCTX := hide hctx
      have HC2 := hide C2
      have HB2 := hide B2
      have HM2 := hide M2
      have HDL := hide hDl
      have HI2 := hide I2
      clear hctx C2 L2 I2 B2 M2 hownd hbel2 hDl HCL
      go_wp2_with fail
      refine (unhide HCTX).mono ?_
      rintro e w3 hout
      have hnn := neqNil23
      have hn24 := neqNil24
      have hen := eqNil23
      rcases hout with ⟨hm0, q', sv', dv', dst', rfl, hq2, hqb, I3⟩ | ⟨hm0, hrl, rfl, sv', dv', dst', I3⟩ | ⟨hm0, hrl, dv, sv', rfl, I3⟩
      -- NO BEARER CONTEXT
      · have F := aft (unhide HR) (unhide HB2) (unhide HM2) (unhide HC2) (unhide HI2) I3 (unhide HDST) (unhide HWC)
        obtain ⟨os, cs, gs, hsv, _, _⟩ := own_shape (l := []) I3.ownS
        subst hsv
        have cseen := F.seen
        have cM := F.hM
        have q0 : w3.cell? ⟨q', 0, none⟩ = some (.int .u8 70) := cell_at hq2
        have q1 : w3.cell? ⟨q', 1, none⟩ = some (.bool false) := cell_at hq2
        have q2 : w3.cell? ⟨q', 2, none⟩ = some (.bool false) := cell_at hq2
        have q3 : w3.cell? ⟨q', 3, none⟩ = some (.bool false) := cell_at hq2
        have q4 : w3.cell? ⟨q', 4, none⟩ = some (.bool true) := cell_at hq2
        have q5 : w3.cell? ⟨q', 5, none⟩ = some (.int .u8 93) := cell_at hq2
        have q6 : w3.cell? ⟨q', 6, none⟩ = some (.int .u8 0) := cell_at hq2
        have q7 : w3.cell? ⟨q', 7, none⟩ = some (.slice none 0 0) := cell_at hq2
        have hqne : ¬ q' = wr.heap.size + 1 := by omega
        have hpe : ∀ nq, (binOp .eql 32 (.pointer (some ⟨q', 0, none⟩)) (.pointer (some ⟨wr.heap.size + 1, 0, none⟩))).run Yba.prog (w3.drewN nq) = .ok (.bool false) (w3.drewN nq) := fun nq => ptrOther _ hqne hq2 F.mine
        have hb0 : ((W.length : Int) == 0) = true := by simp [hm0]
        have HF := hide F
        have HM0 := hide hm0
        clear F I3 hm0 hq2 HCTX
        go_wp2_with fail
        refine (equal_any od ad ld cdd cd D _ h2 (unhide HF).d (unhide HF).dst).mono ?_
        rintro e w4 ⟨rfl, nq, rfl⟩
        go_wp2
        go_ret
        exact ⟨rfl, below_drewN (unhide HF).bel _⟩
      -- REFUSED
      · have F := aft (unhide HR) (unhide HB2) (unhide HM2) (unhide HC2) (unhide HI2) I3 (unhide HDST) (unhide HWC)
        have hlen : (W.take (r + 1)).length = r + 1 := by rw [List.length_take]; omega
        obtain ⟨os, cs, gs, hsv, _, hsc⟩ := own_shape (l := W.take (r + 1)) (by rw [hlen]; have := I3.ownS; rw [hlen] at this; exact this)
        rw [hlen] at hsv hsc
        have hos := (hsc 0 (by omega)).1
        subst hos
        subst hsv
        have how := (F.want 0 hm0).1
        subst how
        have cseen := F.seen
        have cM := F.hM
        have cR := F.hR
        have hps := ptrSame
        have hb0 : ((W.length : Int) == 0) = false := beq_eq_false_iff_ne.2 (by omega)
        have hrl' : (r : Int) < (W.length : Int) := by omega
        have HSC := hide hsc
        have HF := hide F
        clear F I3 hsc hlen HCTX
        go_wp2_with fail
        refine (equal_any od ad ld cdd cd D _ h2 (unhide HF).d (unhide HF).dst).mono ?_
        rintro e w4 ⟨rfl, nq, rfl⟩
        go_wp2
        go_loopw [25] (fun i wx => ∃ k' nq : Nat, k' ≤ r + 1 ∧ i = .int .i64 k' ∧ wx = w3.drewN nq) (fun i _ => r + 1 - (intOf i).toNat)
        case atStart => exact ⟨0, _, Nat.zero_le _, rfl, rfl⟩
        case round =>
          obtain ⟨k', nq', hk', rfl, rfl⟩ := hrel
          by_cases hlt' : k' < r + 1
          · have hy1 := (unhide HSC k' hlt').2
            have hy2 := ((unhide HF).want k' (by omega)).2
            have e1 : (W.take (r + 1)).getD k' 0 = W.getD k' 0 := by
              rw [List.getD_eq_getElem?_getD, List.getD_eq_getElem?_getD, List.getElem?_take, if_pos hlt']
            rw [e1] at hy1
            obtain ⟨y, hy⟩ : ∃ y, y = W.getD k' 0 := ⟨_, rfl⟩
            rw [← hy] at hy1 hy2
            clear hy e1
            have j0 : (0 : Int) ≤ (k' : Int) := by omega
            have j1 : (k' : Int) < (r : Int) + 1 := by omega
            have j2 : (k' : Int) < (W.length : Int) := by omega
            go_wp2
            go_quiet (fail)
            go_wp2
            go_roundw
            case rel => exact ⟨k' + 1, _, by omega, by go_num, rfl⟩
            case measure => simp [intOf]; omega
          · go_wp2
            go_ret
            exact ⟨rfl, below_drewN (unhide HF).bel _⟩
      -- READ WHOLE
      · have F := aft (unhide HR) (unhide HB2) (unhide HM2) (unhide HC2) (unhide HI2) I3 (unhide HDST) (unhide HWC)
        obtain rfl : r = W.length := by omega
        obtain ⟨os, cs, gs, hsv, _, hsc⟩ := own_shape (l := W) I3.ownS
        have hdl : (D ++ An A W.length).length = ld + W.length := by rw [List.length_append, An_length, unhide HDL]
        obtain ⟨og, cg, gg, hdv, _, hgc⟩ := own_shape (l := D ++ An A W.length) I3.ownD
        rw [hdl] at hdv hgc
        have hos := (hsc 0 (by omega)).1
        subst hos
        subst hsv
        have hog := (hgc 0 (by omega)).1
        subst hog
        subst hdv
        have how := (F.want 0 hm0).1
        subst how
        have cseen := F.seen
        have cM := F.hM
        have cR := F.hR
        have cA := F.hA
        have hb0 : ((W.length : Int) == 0) = false := beq_eq_false_iff_ne.2 (by omega)
        have hbl : ((ld : Int) + (W.length : Int) != (ld : Int) + (W.length : Int)) = false := by simp
        have HSC := hide hsc
        have HGC := hide hgc
        have HF := hide F
        clear F I3 hsc hgc hdl HCTX
        go_wp2_with fail
        refine (equal_any od ad ld cdd cd D _ h2 (unhide HF).d (unhide HF).dst).mono ?_
        rintro e w4 ⟨rfl, nq, rfl⟩
        go_wp2
        go_loopw [25] (fun i wx => ∃ k' nq : Nat, k' ≤ W.length ∧ i = .int .i64 k' ∧ wx = w3.drewN nq) (fun i _ => W.length - (intOf i).toNat)
        case atStart => exact ⟨0, _, Nat.zero_le _, rfl, rfl⟩
        case round =>
          obtain ⟨k', nq', hk', rfl, rfl⟩ := hrel
          by_cases hlt' : k' < W.length
          · have hy1 := (unhide HSC k' hlt').2
            have hy2 := ((unhide HF).want k' hlt').2
            obtain ⟨y, hy⟩ : ∃ y, y = W.getD k' 0 := ⟨_, rfl⟩
            rw [← hy] at hy1 hy2
            clear hy
            have j0 : (0 : Int) ≤ (k' : Int) := by omega
            have j2 : (k' : Int) < (W.length : Int) := by omega
            go_wp2
            go_quiet (fail)
            go_wp2
            go_roundw
            case rel => exact ⟨k' + 1, _, by omega, by go_num, rfl⟩
            case measure => simp [intOf]; omega
          · go_wp2
            go_loopw [26] (fun i wx => ∃ k' nq : Nat, k' ≤ ld ∧ i = .int .i64 k' ∧ wx = w3.drewN nq) (fun i _ => ld - (intOf i).toNat)
            case atStart => exact ⟨0, _, Nat.zero_le _, rfl, rfl⟩
            case round =>
              obtain ⟨k3, n3, hk3, rfl, rfl⟩ := hrel
              by_cases hl3 : k3 < ld
              · obtain ⟨db, dof, had, _, hdc⟩ := (unhide HF).dst.plain (by omega)
                subst had
                have hy2 := hdc k3 hl3
                have hy1 := (unhide HGC k3 (by omega)).2
                have e1 : (D ++ An A W.length).getD k3 0 = D.getD k3 0 := by
                  rw [List.getD_eq_getElem?_getD, List.getD_eq_getElem?_getD, List.getElem?_append_left (by rw [unhide HDL]; exact hl3)]
                rw [e1] at hy1
                obtain ⟨y, hy⟩ : ∃ y, y = D.getD k3 0 := ⟨_, rfl⟩
                rw [← hy] at hy1 hy2
                clear hy e1 hdc
                have j0 : (0 : Int) ≤ (k3 : Int) := by omega
                have j1 : (k3 : Int) < (ld : Int) := by omega
                have j2 : (k3 : Int) < (ld : Int) + (W.length : Int) := by omega
                go_wp2
                go_quiet (fail)
                go_wp2
                go_roundw
                case rel => exact ⟨k3 + 1, _, by omega, by go_num, rfl⟩
                case measure => simp [intOf]; omega
              · go_wp2
                go_loopw [27] (fun i wx => ∃ k' nq : Nat, k' ≤ W.length ∧ i = .int .i64 k' ∧ wx = w3.drewN nq) (fun i _ => W.length - (intOf i).toNat)
                case atStart => exact ⟨0, _, Nat.zero_le _, rfl, rfl⟩
                case round =>
                  obtain ⟨k4, n4, hk4, rfl, rfl⟩ := hrel
                  by_cases hl4 : k4 < W.length
                  · have hy1 := (unhide HGC (ld + k4) (by omega)).2
                    have e1 : (D ++ An A W.length).getD (ld + k4) 0 = A.getD k4 0 := by
                      rw [List.getD_eq_getElem?_getD, List.getElem?_append_right (by rw [unhide HDL]; omega), unhide HDL, show ld + k4 - ld = k4 from by omega]
                      unfold An
                      rw [List.getElem?_map, List.getElem?_range hl4]
                      rfl
                    rw [e1] at hy1
                    have j0 : (0 : Int) ≤ (k4 : Int) := by omega
                    by_cases hla4 : k4 < la
                    · obtain ⟨haa, hca⟩ := (unhide HF).hac k4 hla4
                      subst haa
                      obtain ⟨y, hy⟩ : ∃ y, y = A.getD k4 0 := ⟨_, rfl⟩
                      rw [← hy] at hy1 hca
                      clear hy e1
                      go_wp2
                      go_roundw
                      case rel => exact ⟨k4 + 1, _, by omega, by go_num, rfl⟩
                      case measure => simp [intOf]; omega
                    · have e2 : A.getD k4 0 = 0 := by rw [List.getD_eq_getElem?_getD, List.getElem?_eq_none (by omega)]; rfl
                      rw [e2] at hy1
                      clear e1 e2
                      go_wp2
                      go_roundw
                      case rel => exact ⟨k4 + 1, _, by omega, by go_num, rfl⟩
                      case measure => simp [intOf]; omega
                  · go_wp2
                    go_ret
                    exact ⟨rfl, below_drewN (unhide HF).bel _⟩
end Go.Proofs.Ybulkcdyq
