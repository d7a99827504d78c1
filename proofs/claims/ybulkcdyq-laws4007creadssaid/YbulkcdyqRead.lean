/- The contract of the law's closure 'read'. -/
import Derived.Test.YbulkcdyqLib
import Derived.Deep.RegionHeld3
import Derived.Deep.DrawnRows
import Derived.Deep.RegionLaw
import Derived.Deep.DeepCutAuto
namespace Go.Proofs.Ybulkcdyq
open Go.RowKit

/-- 'int(v0) | int(v1)<<8', as the walk writes it. -/
abbrev orB (v0 v1 : Int) : Int := bits BinOp.or IntKind.i64 (IntKind.i64.wrap v0) (IntKind.i64.wrap (IntKind.i64.wrap v1 * 256))

theorem appBlock {wb w1 : World} {b : Nat} {o o' : Obj} {row : Option Nat} (h : wb.heap[b]? = some o) (hg : (wb.alloc o').drew.grownBy w1 row) (hne : row ≠ some b) : w1.heap[b]? = some o := by
  have hl := lt_of_some h
  rw [hg.block b (by simp; omega) (Ne.symm hne)]
  show (wb.alloc o').heap[b]? = _
  rw [Below.heap_alloc _ _ _ hl]; exact h
theorem appCell {wb w1 : World} {b : Nat} {v : Value} {t : TypeId} {o' : Obj} {row : Option Nat} (h : wb.heap[b]? = some (.cells #[v] t (0, 0))) (hg : (wb.alloc o').drew.grownBy w1 row) (hne : row ≠ some b) : w1.cell? ⟨b, 0, none⟩ = some v := cell_of_one (appBlock h hg hne)
theorem appFree {wb w1 : World} {b : Nat} {v : Value} {t : TypeId} {o' : Obj} {row : Option Nat} (h : wb.heap[b]? = some (.cells #[v] t (0, 0))) (hg : (wb.alloc o').drew.grownBy w1 row) (hne : row ≠ some b) : w1.frozen? ⟨b, 0, none⟩ = false := free_of_one (appBlock h hg hne)

theorem appRel {w wb w1 : World} {base bS n g cap : Nat} {sv x : Value} {xs : List Value} {o' : Obj} (hszb : wb.heap.size = w.heap.size + 1) (hSb : wb.heap[bS]? = some (.cells #[sv] 23 (0, 0))) (hownb : wb.ownsRow base 3 1 sv n xs) (hbS : bS < base)
    (hown1 : w1.ownsRow base 3 1 (.slice (some ⟨g, 0, none⟩) (n + 1) cap) (n + 1) (xs ++ [x])) (hg : (wb.alloc o').drew.grownBy w1 sv.ownBlock) (hat : sv.ownBlock = some g ∨ g = (wb.alloc o').drew.heap.size) :
    ∃ g' cap', (w1.setCell ⟨bS, 0, none⟩ (.slice (some ⟨g, 0, none⟩) (n + 1) cap)).heap[bS]? = some (.cells #[.slice (some ⟨g', 0, none⟩) (n + 1) cap'] 23 (0, 0)) ∧ (w1.setCell ⟨bS, 0, none⟩ (.slice (some ⟨g, 0, none⟩) (n + 1) cap)).ownsRow base 3 1 (.slice (some ⟨g', 0, none⟩) (n + 1) cap') (n + 1) (xs ++ [x]) ∧ (sv.ownBlock = some g' ∨ w.heap.size ≤ g') ∧ Mv (fun k => k = bS ∨ sv.ownBlock = some k) wb (w1.setCell ⟨bS, 0, none⟩ (.slice (some ⟨g, 0, none⟩) (n + 1) cap)) := by
  have hne : sv.ownBlock ≠ some bS := fun e => by have := hownb.lt bS e; omega
  have h1 := appBlock hSb hg hne
  have hgb : g ≠ bS := fun e => by have := (hown1.lt g rfl).1; omega
  refine ⟨g, cap, one_setCell h1, ownsRow_setCell_other hown1 (by simp [Value.ownBlock]; exact hgb) _, ?_, ?_⟩
  · rcases hat with h | h
    · exact .inl h
    · right; rw [h]; simp; omega
  · refine Mv.trans (f := fun k => k = bS ∨ sv.ownBlock = some k) ⟨hg.os, hg.tape, hg.output, ?_, ?_⟩ (Mv.setCell w1 ⟨bS, 0, none⟩ _) (fun x _ h => .inl h)
    · have := hg.size; simp at this; omega
    · intro k hk hn
      rw [hg.block k (by simp; omega) (fun e => hn (.inr e.symm))]
      exact Below.heap_alloc _ _ _ hk

set_option maxRecDepth 100000 in
set_option maxHeartbeats 3200000 in
theorem read_any (base bK bS bR bM bA bm bv la ca ab ao : Nat) (aa : Option Addr) (j r : Nat) (v0 v1 x : Int) (seen A : List Int) (sv : Value) (w : World)
    (hK : w.heap[bK]? = some (.cells #[.int .i64 j] 3 (0, 0))) (hS : w.heap[bS]? = some (.cells #[sv] 23 (0, 0)))
    (hR : w.cell? ⟨bR, 0, none⟩ = some (.int .i64 r)) (hM : w.cell? ⟨bM, 0, none⟩ = some (.pointer (some ⟨bm, 0, none⟩))) (hA : w.cell? ⟨bA, 0, none⟩ = some (.slice aa la ca))
    (hac : ∀ i, i < la → aa = some ⟨ab, ao, none⟩ ∧ w.cell? ⟨ab, ao + i, none⟩ = some (.int .i64 (A.getD i 0))) (hAl : A.length = la)
    (hv : w.heap[bv]? = some (.cells #[.int .u8 v0, .int .u8 v1] 5 (0, 0))) (_hv0 : 0 ≤ v0) (_hv0' : v0 ≤ 255) (_hv1 : 0 ≤ v1) (_hv1' : v1 ≤ 255) (hx : orB v0 v1 = x)
    (hown : w.ownsRow base 3 1 sv seen.length (seen.map (Value.int .i64))) (hbase : base ≤ w.heap.size) (hbK : bK < base) (hbS : bS < base) (hKS : bK ≠ bS) (hbR : bR < base) (hbM : bM < base) (hbA : bA < base) (hab : ab < base)
    (hRK : bR ≠ bK) (hRS : bR ≠ bS) (hMK : bM ≠ bK) (hMS : bM ≠ bS) (hAK : bA ≠ bK) (hAS : bA ≠ bS) (haK : ab ≠ bK) (haS : ab ≠ bS) (hj : j ≤ 1024) (_hla : la ≤ 1024) (hn : seen.length ≤ 1024) :
    Calls Yba.prog 4 #[.agg #[.int .u8 93, .int .u8 0, .int .u8 0, .slice (some ⟨bv, 0, none⟩) 2 2], .pointer (some ⟨bK, 0, none⟩), .pointer (some ⟨bS, 0, none⟩), .pointer (some ⟨bR, 0, none⟩), .pointer (some ⟨bM, 0, none⟩), .pointer (some ⟨bA, 0, none⟩)] w fun e w' =>
      e = .returned (.tuple #[.int .i64 (if j = r then 0 else A.getD j 0), if j = r then .pointer (some ⟨bm, 0, none⟩) else .pointer none]) ∧
      w'.heap[bK]? = some (.cells #[.int .i64 ((j : Int) + 1)] 3 (0, 0)) ∧
      (∃ g cap, w'.heap[bS]? = some (.cells #[.slice (some ⟨g, 0, none⟩) (seen.length + 1) cap] 23 (0, 0)) ∧ w'.ownsRow base 3 1 (.slice (some ⟨g, 0, none⟩) (seen.length + 1) cap) (seen.length + 1) (seen.map (Value.int .i64) ++ [.int .i64 x]) ∧ (sv.ownBlock = some g ∨ w.heap.size ≤ g)) ∧
      Mv (fun k => k = bK ∨ k = bS ∨ sv.ownBlock = some k) w w' := by
  obtain ⟨i0, hi, hz0, hz1, hz2⟩ := info_parts Yba.info3
  have lK := lt_of_some hK
  have lS := lt_of_some hS
  have lv := lt_of_some hv
  have cK := cell_of_one hK
  have fK := free_of_one hK
  have cS := cell_of_one hS
  have fS := free_of_one hS
  have cv0 : w.cell? ⟨bv, 0, none⟩ = some (.int .u8 v0) := cell_at hv
  have cv1 : w.cell? ⟨bv, 1, none⟩ = some (.int .u8 v1) := cell_at hv
  have lR := World.block_lt_of_cell? w _ hR
  have lA := World.block_lt_of_cell? w _ hA
  have HK := hide hK
  have HS := hide hS
  have HV := hide hv
  have HO := hide hown
  have lM := World.block_lt_of_cell? w _ hM
  have HX := hide hx
  have HAC := hide hac
  have HR := hide hR
  have HM := hide hM
  have HA := hide hA
  clear hK hS hv hown hx hac hM
  simp only at lR lA lM
  go_enter Yba.func4, Yba.ntmps4
  go_wp2
  obtain ⟨wb, hwb⟩ : ∃ wb, wb = (w.setCell ⟨bK, 0, none⟩ (.int .i64 ((j : Int) + 1))).alloc (.cells #[.int .u8 93, .int .u8 0, .int .u8 0, .slice (some ⟨bv, 0, none⟩) 2 2] 31) := ⟨_, rfl⟩
  rw [← hwb]
  have hmv : Mv (fun k => k = bK) w wb := by
    rw [hwb]; exact (Mv.setCell w ⟨bK, 0, none⟩ _).trans (Mv.alloc _ _ _) (fun _ _ h => h)
  have hKb : wb.heap[bK]? = some (.cells #[.int .i64 ((j : Int) + 1)] 3 (0, 0)) := by
    rw [hwb, Below.heap_alloc _ _ _ (by simpa using lK)]; exact one_setCell (unhide HK)
  have hSb : wb.heap[bS]? = some (.cells #[sv] 23 (0, 0)) := hmv.get (unhide HS) (Ne.symm hKS)
  have hszb : wb.heap.size = w.heap.size + 1 := by rw [hwb]; simp
  have cc3 : wb.cell? ⟨w.heap.size, 3, none⟩ = some (.slice (some ⟨bv, 0, none⟩) 2 2) := by
    have : wb.heap[w.heap.size]? = some (.cells #[.int .u8 93, .int .u8 0, .int .u8 0, .slice (some ⟨bv, 0, none⟩) 2 2] 31) := by
      rw [hwb]; have := heap_alloc_new (w.setCell ⟨bK, 0, none⟩ (.int .i64 ((j : Int) + 1))) (.cells #[.int .u8 93, .int .u8 0, .int .u8 0, .slice (some ⟨bv, 0, none⟩) 2 2] 31); simpa using this
    exact cell_at this
  have hvK : ¬ bv = bK := fun e => by have h1 := unhide HV; rw [e, unhide HK] at h1; simp at h1
  have hVb := hmv.get (unhide HV) hvK
  have cv0' : wb.cell? ⟨bv, 0, none⟩ = some (.int .u8 v0) := cell_at hVb
  have cv1' : wb.cell? ⟨bv, 1, none⟩ = some (.int .u8 v1) := cell_at hVb
  have cSb := cell_of_one hSb
  have fSb := free_of_one hSb
  have hownb : wb.ownsRow base 3 1 sv seen.length (seen.map (Value.int .i64)) := owns_mv (unhide HO) hmv (fun g hg e => by have := (unhide HO).lt g hg; omega)
  have hRb : wb.cell? ⟨bR, 0, none⟩ = some (.int .i64 r) := by rw [World.cell?_of_block (hmv.block bR lR hRK)]; exact hR
  have hAb : wb.cell? ⟨bA, 0, none⟩ = some (.slice aa la ca) := by rw [World.cell?_of_block (hmv.block bA lA hAK)]; exact hA
  have HKb := hide hKb
  have HSb := hide hSb
  have HMV := hide hmv
  have HVb := hide hVb
  have HSZ := hide hszb
  have cSb' : ∀ o, (wb.alloc o).cell? ⟨bS, 0, none⟩ = some sv := fun o => by
    rw [((Below.refl wb.heap.size wb).alloc (Nat.le_refl _) o).cell (lt_of_some hSb)]; exact cSb
  clear hwb hmv hKb hSb hVb cK fK cS fS cv0 cv1 hR hA hszb
  go_cut [] (fun wx => ∃ g cap, wx.heap[bS]? = some (.cells #[.slice (some ⟨g, 0, none⟩) (seen.length + 1) cap] 23 (0, 0)) ∧ wx.ownsRow base 3 1 (.slice (some ⟨g, 0, none⟩) (seen.length + 1) cap) (seen.length + 1) (seen.map (Value.int .i64) ++ [.int .i64 (orB v0 v1)]) ∧ (sv.ownBlock = some g ∨ w.heap.size ≤ g) ∧ Mv (fun k => k = bS ∨ sv.ownBlock = some k) wb wx)
  case first =>
    go_region_law ((refine step_append_lies _ (by rfl) _ _ _ (by rfl) base 3 i0 (.int .i64 0) 1 8 Yba.underlying23 hi hz0 hz1 hz2 rfl (by decide) sv seen.length (seen.map (Value.int .i64)) (by rfl) ((hownb.alloc _).drew) ⟨wb.heap.size, 0, none⟩ 1 1 [.int .i64 (orB v0 v1)] (by rfl) (by rfl) (World.news_of_block (cs := #[.int .i64 (orB v0 v1)]) (t := 3) (fr := (0, 0)) (heap_alloc_new wb _)) (by simp [Value.oneCell']) (by omega) (by unfold maxLen; omega) (by omega) (by have := unhide HSZ; simp; omega) _ rfl ?_; intro g cap w1 hown1 hgrow hat hlt; have cS1 := appCell (unhide HSb) hgrow (by intro e; have := hownb.lt bS e; omega); have fS1 := appFree (unhide HSb) hgrow (by intro e; have := hownb.lt bS e; omega)))
    all_goals
      go_wp2_with fail
      go_meet
      exact appRel (unhide HSZ) (unhide HSb) hownb hbS hown1 hgrow hat
  case rest =>
    obtain ⟨g, cap, hS', hown', hat', hmv'⟩ := hcut
    have hMV : Mv (fun k => k = bK ∨ k = bS ∨ sv.ownBlock = some k) w wc :=
      (Mv.mono (unhide HMV) (fun _ _ h => .inl h)).trans hmv' (fun _ _ h => .inr h)
    have keepc : ∀ (a : Addr) (v : Value), w.cell? a = some v → a.block < base → a.block ≠ bK → a.block ≠ bS → wc.cell? a = some v := fun a v h h1 h2 h3 => by
      rw [World.cell?_of_block (hMV.block a.block (by omega) (fun e => ?_))]
      · exact h
      · rcases e with e | e | e
        · exact h2 e
        · exact h3 e
        · have := (unhide HO).lt _ e; omega
    have hRc : wc.cell? ⟨bR, 0, none⟩ = some (.int .i64 r) := keepc _ _ (unhide HR) hbR hRK hRS
    have hMc : wc.cell? ⟨bM, 0, none⟩ = some (.pointer (some ⟨bm, 0, none⟩)) := keepc _ _ (unhide HM) hbM hMK hMS
    have hAc : wc.cell? ⟨bA, 0, none⟩ = some (.slice aa la ca) := keepc _ _ (unhide HA) hbA hAK hAS
    have hacc : ∀ i, i < la → aa = some ⟨ab, ao, none⟩ ∧ wc.cell? ⟨ab, ao + i, none⟩ = some (.int .i64 (A.getD i 0)) := fun i hi' => ⟨(unhide HAC i hi').1, keepc _ _ (unhide HAC i hi').2 hab haK haS⟩
    have hKc : wc.heap[bK]? = some (.cells #[.int .i64 ((j : Int) + 1)] 3 (0, 0)) := hmv'.get (unhide HKb) (fun e => by
      rcases e with e | e
      · exact hKS e
      · have := (unhide HO).lt _ e; omega)
    have hfin : wc.heap[bK]? = some (.cells #[.int .i64 ((j : Int) + 1)] 3 (0, 0)) ∧ (∃ g cap, wc.heap[bS]? = some (.cells #[.slice (some ⟨g, 0, none⟩) (seen.length + 1) cap] 23 (0, 0)) ∧ wc.ownsRow base 3 1 (.slice (some ⟨g, 0, none⟩) (seen.length + 1) cap) (seen.length + 1) (seen.map (Value.int .i64) ++ [.int .i64 x]) ∧ (sv.ownBlock = some g ∨ w.heap.size ≤ g)) ∧ Mv (fun k => k = bK ∨ k = bS ∨ sv.ownBlock = some k) w wc :=
      ⟨hKc, ⟨g, cap, hS', by rw [← unhide HX]; exact hown', hat'⟩, hMV⟩
    have HF := hide hfin
    have HACC := hide hacc
    clear hfin hacc hKc keepc hMV hmv' hat' hown' hS' cSb fSb cSb' cv0' cv1' cc3 hRb hAb hownb
    by_cases hjr : j = r
    · subst hjr
      have hb : (((j : Int)) == (j : Int)) = true := by simp
      go_wp2
      go_quiet (fail)
      go_wp2
      go_ret2
      exact ⟨by simp, (unhide HF).1, (unhide HF).2.1, (unhide HF).2.2.trans (Mv.of_drewN _ _) (fun _ _ h => h.elim)⟩
    · have hb : (((j : Int)) == (r : Int)) = false := by simp; omega
      by_cases hjl : j < la
      · obtain ⟨haa, hca⟩ := unhide HACC j hjl
        subst haa
        go_wp2
        go_ret2
        exact ⟨rfl, (unhide HF)⟩
      · have h0 : A.getD j 0 = 0 := by rw [List.getD_eq_getElem?_getD, List.getElem?_eq_none (by omega)]; rfl
        have H0 := hide h0
        clear h0
        go_wp2
        go_ret2
        exact ⟨by first | rfl | (have h0 := unhide H0; rw [List.getD_eq_getElem?_getD] at h0; rw [h0]; rfl), (unhide HF)⟩
end Go.Proofs.Ybulkcdyq
