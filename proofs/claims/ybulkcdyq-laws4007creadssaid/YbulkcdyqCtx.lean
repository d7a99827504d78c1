/- The contract of readBearerContexts[int]. -/
import Derived.Test.YbulkcdyqInv
import Derived.Test.YbulkcdyqRead
namespace Go.Proofs.Ybulkcdyq
open Go.RowKit

def msg (bl n : Nat) : Value := .agg #[.int .u8 0, .bool false, .int .u32 0, .int .u32 0, .bool false, .int .u8 0, .bool false, .slice (some ⟨bl, 0, none⟩) n n, .int .u8 0, .int .u8 0]

/-- The list of IEs in memory. -/
structure Lst (bl n base bK bS : Nat) (ty ins : Nat → Int) (f : Nat → Nat) (w : World) : Prop where
  blB : bl < base
  blK : bl ≠ bK
  blS : bl ≠ bS
  cells : ∀ i, i < n → w.cell? ⟨bl, i * 4, none⟩ = some (.int .u8 (ty i)) ∧ w.cell? ⟨bl, i * 4 + 1, none⟩ = some (.int .u8 (ins i)) ∧ w.cell? ⟨bl, i * 4 + 2, none⟩ = some (.int .u8 0) ∧ w.cell? ⟨bl, i * 4 + 3, none⟩ = some (.slice (some ⟨f i, 0, none⟩) 2 2)
  vals : ∀ i, i < n → w.heap[f i]? = some (.cells #[.int .u8 ((i : Int) % 256), .int .u8 ((i : Int) / 256)] 5 (0, 0)) ∧ f i < base ∧ f i ≠ bK ∧ f i ≠ bS

/-- What the closure holds. -/
structure Clo (base bK bS bR bM bA bm la ca ab ao : Nat) (aa : Option Addr) (r : Nat) (A : List Int) (w : World) : Prop where
  hR : w.cell? ⟨bR, 0, none⟩ = some (.int .i64 r)
  hM : w.cell? ⟨bM, 0, none⟩ = some (.pointer (some ⟨bm, 0, none⟩))
  hA : w.cell? ⟨bA, 0, none⟩ = some (.slice aa la ca)
  hac : ∀ i, i < la → aa = some ⟨ab, ao, none⟩ ∧ w.cell? ⟨ab, ao + i, none⟩ = some (.int .i64 (A.getD i 0))
  hAl : A.length = la
  hla : la ≤ 1024
  KB : bK < base
  SB : bS < base
  KS : bK ≠ bS
  RB : bR < base ∧ bR ≠ bK ∧ bR ≠ bS
  MB : bM < base ∧ bM ≠ bK ∧ bM ≠ bS
  AB : bA < base ∧ bA ≠ bK ∧ bA ≠ bS
  aB : ab < base ∧ ab ≠ bK ∧ ab ≠ bS

section
variable {base bK bS : Nat} {w wr w2 : World}

theorem keepCell (hm : Mv (fun k => k = bK ∨ k = bS ∨ base ≤ k) w wr) (hb : base ≤ w.heap.size) {a : Addr} {v : Value} (h : w.cell? a = some v) (h1 : a.block < base ∧ a.block ≠ bK ∧ a.block ≠ bS) : wr.cell? a = some v := by
  rw [World.cell?_of_block (w := w) (hm.block a.block (by omega) (fun e => by
    rcases e with e | e | e
    · exact h1.2.1 e
    · exact h1.2.2 e
    · omega))]
  exact h

theorem Clo.mv {bR bM bA bm la ca ab ao : Nat} {aa : Option Addr} {r : Nat} {A : List Int} (C : Clo base bK bS bR bM bA bm la ca ab ao aa r A w) (hm : Mv (fun k => k = bK ∨ k = bS ∨ base ≤ k) w wr) (hb : base ≤ w.heap.size) : Clo base bK bS bR bM bA bm la ca ab ao aa r A wr :=
  ⟨keepCell hm hb C.hR C.RB, keepCell hm hb C.hM C.MB, keepCell hm hb C.hA C.AB, fun i hi => ⟨(C.hac i hi).1, keepCell hm hb (C.hac i hi).2 C.aB⟩, C.hAl, C.hla, C.KB, C.SB, C.KS, C.RB, C.MB, C.AB, C.aB⟩

theorem Lst.mv {bl n : Nat} {ty ins : Nat → Int} {f : Nat → Nat} (L : Lst bl n base bK bS ty ins f w) (hm : Mv (fun k => k = bK ∨ k = bS ∨ base ≤ k) w wr) (hb : base ≤ w.heap.size) : Lst bl n base bK bS ty ins f wr :=
  ⟨L.blB, L.blK, L.blS, fun i hi => ⟨keepCell hm hb (L.cells i hi).1 ⟨L.blB, L.blK, L.blS⟩, keepCell hm hb (L.cells i hi).2.1 ⟨L.blB, L.blK, L.blS⟩, keepCell hm hb (L.cells i hi).2.2.1 ⟨L.blB, L.blK, L.blS⟩, keepCell hm hb (L.cells i hi).2.2.2 ⟨L.blB, L.blK, L.blS⟩⟩,
    fun i hi => ⟨hm.get (L.vals i hi).1 (fun e => by
      obtain ⟨_, h2, h3, h4⟩ := L.vals i hi
      rcases e with e | e | e
      · exact h3 e
      · exact h4 e
      · omega), (L.vals i hi).2⟩⟩
end

theorem orB_all : ∀ i : Fin 1024, orB ((i.val : Int) % 256) ((i.val : Int) / 256) = (i.val : Int) := by decide +kernel
theorem orB_id (i : Nat) (h : i < 1024) : orB ((i : Int) % 256) ((i : Int) / 256) = (i : Int) := orB_all ⟨i, h⟩

theorem read_inv {base bK bS bR bM bA bm la ca ab ao : Nat} {aa : Option Addr} {r : Nat} {A : List Int} {w wr : World} {c : Nat} {sv dv d : Value} {seen dst ds : List Int} (bv i : Nat)
    (I : Inv base bK bS w wr c sv seen dv dst d ds) (C : Clo base bK bS bR bM bA bm la ca ab ao aa r A wr) (hv : wr.heap[bv]? = some (.cells #[.int .u8 ((i : Int) % 256), .int .u8 ((i : Int) / 256)] 5 (0, 0))) (hi : i < 1024) (hc : c ≤ 1024) (hs : seen.length ≤ 1024) :
    Calls Yba.prog 4 #[.agg #[.int .u8 93, .int .u8 0, .int .u8 0, .slice (some ⟨bv, 0, none⟩) 2 2], .pointer (some ⟨bK, 0, none⟩), .pointer (some ⟨bS, 0, none⟩), .pointer (some ⟨bR, 0, none⟩), .pointer (some ⟨bM, 0, none⟩), .pointer (some ⟨bA, 0, none⟩)] wr fun e w' =>
      e = .returned (.tuple #[.int .i64 (if c = r then 0 else A.getD c 0), if c = r then .pointer (some ⟨bm, 0, none⟩) else .pointer none]) ∧ ∃ sv', Inv base bK bS w w' (c + 1) sv' (seen ++ [(i : Int)]) dv dst d ds := by
  refine (read_any base bK bS bR bM bA bm bv la ca ab ao aa c r ((i : Int) % 256) ((i : Int) / 256) i seen A sv wr I.hK I.hS C.hR C.hM C.hA C.hac C.hAl hv (by omega) (by omega) (by omega) (by omega) (orB_id i hi) I.ownS I.size C.KB C.SB C.KS C.RB.1 C.MB.1 C.AB.1 C.aB.1 C.RB.2.1 C.RB.2.2 C.MB.2.1 C.MB.2.2 C.AB.2.1 C.AB.2.2 C.aB.2.1 C.aB.2.2 hc C.hla hs).mono ?_
  rintro e w' ⟨rfl, hK, ⟨g, cap, hS, hown, hat⟩, hm⟩
  exact ⟨rfl, _, I.call C.KB C.SB hK hS hown hat hm⟩

/-- Is place i a Bearer Context of instance 0? -/
def gd (ty ins : Nat → Int) (i : Nat) : Bool := ty i == 93 && ins i == 0

set_option maxRecDepth 100000 in
set_option maxHeartbeats 3200000 in
theorem ctx_any (base bK bS bR bM bA bm bl n la ca ab ao : Nat) (aa : Option Addr) (r : Nat) (A : List Int) (ty ins : Nat → Int) (f : Nat → Nat) (d sv : Value) (ds : List Int) (w : World)
    (L : Lst bl n base bK bS ty ins f w) (C : Clo base bK bS bR bM bA bm la ca ab ao aa r A w) (I : Inv base bK bS w w 0 sv [] d ds d ds) (hn : n ≤ 1024) (hds : ds.length ≤ 1024) :
    Calls Yba.prog 6 #[d, msg bl n, .func (.func 4) #[] #[.pointer (some ⟨bK, 0, none⟩), .pointer (some ⟨bS, 0, none⟩), .pointer (some ⟨bR, 0, none⟩), .pointer (some ⟨bM, 0, none⟩), .pointer (some ⟨bA, 0, none⟩)]] w fun e w' =>
      ((Wn (gd ty ins) n).length = 0 ∧ ∃ q sv' dv' dst', e = .returned (.tuple #[.slice none 0 0, .pointer (some ⟨q, 0, none⟩)]) ∧ w'.heap[q]? = some (.cells (refCells 70 true 93 0) 37 (0, 0)) ∧ base ≤ q ∧ Inv base bK bS w w' 0 sv' [] dv' dst' d ds) ∨
      (0 < (Wn (gd ty ins) n).length ∧ r < (Wn (gd ty ins) n).length ∧ e = .returned (.tuple #[.slice none 0 0, .pointer (some ⟨bm, 0, none⟩)]) ∧ ∃ sv' dv' dst', Inv base bK bS w w' (r + 1) sv' ((Wn (gd ty ins) n).take (r + 1)) dv' dst' d ds) ∨
      (0 < (Wn (gd ty ins) n).length ∧ (Wn (gd ty ins) n).length ≤ r ∧ ∃ dv sv', e = .returned (.tuple #[dv, .pointer none]) ∧ Inv base bK bS w w' (Wn (gd ty ins) n).length sv' (Wn (gd ty ins) n) dv (ds ++ An A (Wn (gd ty ins) n).length) d ds) := by
  obtain ⟨i0, hi, hz0, hz1, hz2⟩ := info_parts Yba.info3
  have hb := I.size
  unfold msg
  have HL := hide L
  have HC := hide C
  have HI := hide I
  clear L C I
  go_enter Yba.func6, Yba.ntmps6
  go_wp2
  go_loopw [0, 8, 16] (fun dv nn i wr => ∃ (k : Nat) (sv' : Value), k ≤ n ∧ i = .int .i64 k ∧ nn = .int .i64 (Wn (gd ty ins) k).length ∧ (Wn (gd ty ins) k).length ≤ r ∧ Inv base bK bS w wr (Wn (gd ty ins) k).length sv' (Wn (gd ty ins) k) dv (ds ++ An A (Wn (gd ty ins) k).length) d ds) (fun _ _ i _ => n - (intOf i).toNat)
  case atStart => exact ⟨0, sv, Nat.zero_le _, rfl, rfl, Nat.zero_le _, by simpa [Wn_zero, An_zero] using (unhide HI).alloc _⟩
  case round =>
    obtain ⟨k, sv', hk, rfl, rfl, hcr, IR⟩ := hrel
    have hwl := Wn_le (gd ty ins) k
    by_cases hlt : k < n
    · obtain ⟨g0, g1, g2, g3⟩ := ((unhide HL).mv IR.mv hb).cells k hlt
      have hv := (((unhide HL).mv IR.mv hb).vals k hlt).1
      have hblt : bl < wr.heap.size := World.block_lt_of_cell? wr _ g0
      have HV := hide hv
      have HIR := hide IR
      have HCR := hide ((unhide HC).mv IR.mv hb)
      clear hv IR
      by_cases ht : ty k = 93
      · by_cases hin : ins k = 0
        · have hgood : gd ty ins k = true := by simp [gd, ht, hin]
          rw [ht] at g0
          rw [hin] at g1
          obtain ⟨cw, hcw⟩ : ∃ cw, cw = (Wn (gd ty ins) k).length := ⟨_, rfl⟩
          have HG := hide hgood
          have HT := hide ht
          have HN := hide hin
          have HCW := hide hcw
          rw [← hcw] at hwl hcr ⊢
          obtain ⟨dd, hdd⟩ : ∃ dd, dd = ds ++ An A cw := ⟨_, rfl⟩
          have HI2 : Hid (Inv base bK bS w wr cw sv' (Wn (gd ty ins) k) u0 dd d ds) := by
            have := unhide HIR; rw [← hcw, ← hdd] at this; exact this
          have HDD := hide hdd
          clear hdd
          clear hgood ht hin hcw HIR
          go_wp2_with fail
          refine (read_inv (f k) k ((unhide HI2).alloc _) ((unhide HCR).mv (Mv.alloc _ _ _) ?_) ?_ (by omega) (by omega) ?_).mono ?_
          · exact (unhide HI2).size
          · rw [Below.heap_alloc _ _ _ (lt_of_some (unhide HV))]; exact unhide HV
          · rw [← unhide HCW]; omega
          rintro e w1 ⟨rfl, sv2, I2⟩
          have HI3 := hide I2
          clear I2 g0 g1 g2 g3 hblt
          by_cases hcc : cw = r
          · obtain rfl := hcc
            rw [if_pos rfl, if_pos rfl]
            go_wp2
            go_ret2
            have e1 : (Wn (gd ty ins) (k + 1)).length = cw + 1 := by rw [Wn_yes _ _ (unhide HG)]; simp [← unhide HCW]
            have e2 := Wn_take (gd ty ins) (show k + 1 ≤ n by omega)
            rw [e1] at e2
            have e3 : cw < (Wn (gd ty ins) n).length := by
              have := congrArg List.length e2
              rw [List.length_take, e1] at this
              omega
            refine .inr (.inl ⟨by omega, e3, rfl, sv2, u0, dd, ?_⟩)
            rw [e2, Wn_yes _ _ (unhide HG)]
            exact unhide HI3
          · rw [if_neg hcc, if_neg hcc]
            obtain ⟨y, hy⟩ : ∃ y, y = A.getD cw 0 := ⟨_, rfl⟩
            rw [← hy]
            have HY := hide hy
            clear hy
            have hownD := (unhide HI3).ownD
            have hsz1 := (unhide HI3).size
            have hlen : dd.length = ds.length + cw := by rw [unhide HDD]; simp [An_length]
            have HLEN := hide hlen
            clear hlen
            go_wp2_with (at_builtin; refine wpList_append_keep _ rfl _ _ 23 rfl base 3 i0 (.int .i64 0) 1 8 Yba.underlying23 hi hz0 hz1 hz2 rfl (by decide) _ _ _ rfl (hownD.alloc _) ⟨w1.heap.size, 0, none⟩ 1 1 [.int .i64 y] rfl rfl (cell_one_new _ _ _) (by simp [Value.oneCell']) (by decide) (by rw [unhide HLEN]; unfold maxLen; omega) (by rw [unhide HLEN]; omega) (by simp; omega) ?_)
            intro g cap w2 hown2 hg2 hl2
            have hg3 : (u0.ownBlock = some g ∧ (w1.alloc (.cells #[.int .i64 y] 3)).grownBy w2 (some g)) ∨ (g = (w1.alloc (.cells #[.int .i64 y] 3)).heap.size ∧ (w1.alloc (.cells #[.int .i64 y] 3)).grownBy w2 none) := by rw [World.size_alloc]; exact hg2
            have I4 := ((unhide HI3).alloc _).app (unhide HC).KB (unhide HC).SB hown2 hg3
            have HI4 := hide I4
            clear I4 hown2 hg2 hg3 hownD
            go_wp2
            go_roundw
            case rel =>
              have e1 : (Wn (gd ty ins) (k + 1)).length = cw + 1 := by rw [Wn_yes _ _ (unhide HG)]; simp [← unhide HCW]
              refine ⟨k + 1, sv2, by omega, by go_num, by rw [e1]; go_num, by rw [e1]; omega, ?_⟩
              rw [e1, Wn_yes _ _ (unhide HG), An_succ, ← unhide HY, ← List.append_assoc, ← unhide HDD]
              exact unhide HI4
            case measure => simp [intOf]; omega
        · have hgood : gd ty ins k = false := by simp [gd, hin]
          have hb1 : (ins k != 0) = true := by simp [hin]
          rw [ht] at g0
          have HG := hide hgood
          have HT := hide ht
          clear hgood ht
          go_wp2
          go_roundw
          case rel => exact ⟨k + 1, sv', by omega, by go_num, by rw [Wn_no _ _ (unhide HG)], by rw [Wn_no _ _ (unhide HG)]; exact hcr, by rw [Wn_no _ _ (unhide HG)]; exact (unhide HIR).alloc _⟩
          case measure => simp [intOf]; omega
      · have hgood : gd ty ins k = false := by simp [gd, ht]
        have hb1 : (ty k != 93) = true := by simp [ht]
        have HG := hide hgood
        clear hgood
        go_wp2
        go_roundw
        case rel => exact ⟨k + 1, sv', by omega, by go_num, by rw [Wn_no _ _ (unhide HG)], by rw [Wn_no _ _ (unhide HG)]; exact hcr, by rw [Wn_no _ _ (unhide HG)]; exact (unhide HIR).alloc _⟩
        case measure => simp [intOf]; omega
    · obtain rfl : k = n := by omega
      obtain ⟨cw, hcw⟩ : ∃ cw, cw = (Wn (gd ty ins) k).length := ⟨_, rfl⟩
      have HIR := hide IR
      have HCW := hide hcw
      rw [← hcw] at hwl hcr ⊢
      clear IR hcw
      by_cases h0 : cw = 0
      · obtain rfl := h0
        go_wp2_with fail
        refine (missing_any _).mono ?_
        rintro e w1 ⟨rfl, rfl⟩
        go_wp2
        go_ret2
        have hw0 : Wn (gd ty ins) k = [] := List.eq_nil_of_length_eq_zero (unhide HCW).symm
        refine .inl ⟨by rw [hw0]; rfl, wr.heap.size, sv', u0, ds ++ An A 0, rfl, heap_alloc_new _ _, (unhide HIR).size, ?_⟩
        have := (unhide HIR).alloc (.cells (refCells 70 true 93 0) 37)
        rw [hw0] at this
        exact this
      · have hb0 : ((cw : Int) == 0) = false := by simp; omega
        go_wp2
        go_ret2
        refine .inr (.inr ⟨by rw [← unhide HCW]; omega, by rw [← unhide HCW]; exact hcr, _, sv', rfl, unhide HIR⟩)
end Go.Proofs.Ybulkcdyq
