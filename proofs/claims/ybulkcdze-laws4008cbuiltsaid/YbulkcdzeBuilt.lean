/- The walk of date.LawS4008CBuilt. -/
import Derived.Test.YbulkcdzeDigits
import Derived.Laws.BytesArg
import Derived.Deep.RegionWith
import Derived.OneCell
import Derived.Deep.DeepCutAuto
import Derived.Deep.Draws
namespace Go.Proofs.Ybulkcdze
open Go.RowKit
open Go.Proofs.Ybulkcdze.Dec

theorem wrapU' (z : Int) : IntKind.u64.wrap z = u64 z := by simp [IntKind.wrap, u64, IntKind.bits, IntKind.signed]
theorem Yba.info5 : (Yba.prog.info? 5).map (fun i => (i.zero, i.size, i.bytes)) = some (some (.int .u8 0), 1, 1) := by kernel_rfl

/-- The byte that the chosen kind plants. -/
def badOf (k : Int) : Int := if k % 6 = 0 then 47 else if k % 6 = 1 then 58 else if k % 6 = 2 then 45 else if k % 6 = 3 then 97 else if k % 6 = 4 then 32 else 255
theorem badOf_not (k : Int) : isD (UInt8.ofNat (badOf k).toNat) = false := by
  unfold badOf; repeat' split
  all_goals rfl

set_option maxRecDepth 100000 in
theorem bad_any (k : Int) (w : World) (h0 : 0 ≤ k) (h1 : k ≤ 255) : Calls Yba.prog 6 #[.int .u8 k] w fun e w' => e = .returned (.int .u8 (badOf k)) ∧ w' = w := by
  have h6 : k % 6 = 0 ∨ k % 6 = 1 ∨ k % 6 = 2 ∨ k % 6 = 3 ∨ k % 6 = 4 ∨ k % 6 = 5 := by omega
  unfold badOf
  rcases h6 with h | h | h | h | h | h
  all_goals
    go_enter Yba.func6, Yba.ntmps6
    go_wp2
    go_ret
    exact ⟨rfl, rfl⟩

set_option maxRecDepth 100000 in
theorem built_big (a : Option Addr) (n c : Nat) (bd : Bool) (p k : Int) (w : World) (hs : n ≤ 9223372036854775807) (h : 1024 < n) : Calls Yba.prog 4 #[.slice a n c, .bool bd, .int .u16 p, .int .u8 k] w fun e w' => e = .returned (.bool true) ∧ Below w.heap.size w w' := by
  go_enter Yba.func4, Yba.ntmps4
  go_wp2
  go_ret
  exact ⟨rfl, Below.refl _ _⟩

/-- The digits' bytes as numbers. -/
def X (zs : List Int) : List Int := zs.map fun z => 48 + z % 10
def L (zs : List Int) : List UInt8 := (X zs).map fun z => UInt8.ofNat z.toNat
theorem L_length (zs : List Int) : (L zs).length = zs.length := by simp [L, X]
theorem L_byte (z : Int) : ((UInt8.ofNat (48 + z % 10).toNat).toNat : Int) = 48 + z % 10 := by
  have h : 0 ≤ z % 10 ∧ z % 10 < 10 := by omega
  rw [UInt8.toNat_ofNat']
  omega
theorem L_drop (zs : List Int) (j : Nat) (h : j < zs.length) : (L zs).drop j = UInt8.ofNat (48 + zs.getD j 0 % 10).toNat :: (L zs).drop (j + 1) := by
  rw [List.drop_eq_getElem_cons (by rw [L_length]; exact h)]
  congr 1
  simp [L, X, List.getD_eq_getElem?_getD, h]
theorem L_all (zs : List Int) : (L zs).all isD = true := by
  rw [List.all_eq_true]
  intro c hc
  simp only [L, X, List.map_map, List.mem_map] at hc
  obtain ⟨z, _, rfl⟩ := hc
  have := L_byte z
  exact isD_of (by simp only [Function.comp]; omega)
theorem L_step (zs : List Int) (j : Nat) (h : j < zs.length) : u64 (u64 (hv ((L zs).drop (j + 1))) + u64 (zs.getD j 0 % 10 * u64 (10 ^ (zs.length - (j + 1))))) = u64 (hv ((L zs).drop j)) := by
  rw [L_drop zs j h, ← sum_step, L_byte, List.length_drop, L_length]
  rw [show (48 : Int) + zs.getD j 0 % 10 - 48 = zs.getD j 0 % 10 from by omega]

theorem cell_at {w : World} {b i : Nat} {cs : Array Value} {t : TypeId} {f : Nat × Nat} (h : w.heap[b]? = some (.cells cs t f)) : w.cell? ⟨b, i, none⟩ = cs[i]? := by
  unfold World.cell?; rw [h]; rfl

/-- The loop's memory: the new row, its bytes from m on written. -/
structure Bt (N n : Nat) (zs : List Int) (w wr : World) (m : Nat) : Prop where
  bel : Below N w wr
  row : ∃ cur, wr.heap[N]? = some (.cells cur 5 (0, 0)) ∧ cur.size = n ∧ ∀ j, m ≤ j → j < n → cur[j]? = some (.int .u8 ((X zs).getD j 0))

theorem Bt.put {N n : Nat} {zs : List Int} {w wr : World} {m : Nat} (B : Bt N n zs w wr (m + 1)) (hm : m < n) {v : Int} (hv : v = (X zs).getD m 0) : Bt N n zs w (wr.setCell ⟨N, m, none⟩ (.int .u8 v)) m := by
  obtain ⟨cur, h1, h2, h3⟩ := B.row
  refine ⟨B.bel.setCell (Nat.le_refl _) _, cur.setIfInBounds m (.int .u8 v), heap_setCell_same wr N m cur 5 _ h1, by simpa using h2, fun j hj hj' => ?_⟩
  rw [Array.getElem?_setIfInBounds]
  by_cases e : m = j
  · subst e
    rw [if_pos rfl, if_pos (by omega), hv]
  · rw [if_neg e]; exact h3 j (by omega) hj'

set_option maxRecDepth 100000 in
set_option maxHeartbeats 1600000 in
theorem built_small (b off : Nat) (a : Option Addr) (n c : Nat) (bd : Bool) (p k : Int) (zs : List Int) (w : World) (h : n ≤ 1024) (hz : zs.length = n) (hp : 0 ≤ p) (hp' : p ≤ 65535) (hk : 0 ≤ k) (hk' : k ≤ 255)
    (hc : ∀ i, i < n → a = some ⟨b, off, none⟩ ∧ w.cell? ⟨b, off + i, none⟩ = some (.int .u8 (zs.getD i 0)) ∧ 0 ≤ zs.getD i 0 ∧ zs.getD i 0 ≤ 255) :
    Calls Yba.prog 4 #[.slice a n c, .bool bd, .int .u16 p, .int .u8 k] w fun e w' => e = .returned (.bool true) ∧ Below w.heap.size w w' := by
  obtain ⟨i0, hi, hz0, hz1, hz2⟩ := info_parts Yba.info5
  have hbig : decide (1024 < (n : Int)) = false := by simp; omega
  have HC := hide hc
  clear hc
  go_enter Yba.func4, Yba.ntmps4
  go_wp2_with (at_make; refine wpList_make_full _ rfl _ _ 25 rfl w.heap.size 5 i0 _ 1 Yba.underlying25 hi hz0 hz1 _ _ _ _ n rfl rfl rfl rfl (by rw [hz2]; omega) (by unfold maxLen; omega) (by simp) ?_)
  intro w1 hown1 hgrow1
  have HO := hide hown1
  have HG := hide hgrow1
  clear hown1 hgrow1
  go_wp2
  go_loopw [10, 11, 12] (fun v q i wr => ∃ (m : Nat) (x y : Int), m ≤ n ∧ i = .int .i64 ((m : Int) - 1) ∧ v = .int .u64 x ∧ q = .int .u64 y ∧ Hid (x = u64 (hv ((L zs).drop m)) ∧ y = u64 (10 ^ (n - m))) ∧ Bt w.heap.size n zs w wr m) (fun _ _ i _ => (intOf i + 1).toNat)
  case atStart =>
    refine ⟨n, 0, 1, Nat.le_refl _, rfl, rfl, rfl, ⟨by rw [List.drop_of_length_le (by rw [L_length, hz]; exact Nat.le_refl _)]; rfl, by simp [u64]⟩, ⟨(unhide HG).os, (unhide HG).tape, (unhide HG).output, (unhide HG).size, fun j hj => (unhide HG).block j hj (by simp)⟩, ?_⟩
    rcases (unhide HO).2 with ⟨e, _⟩ | ⟨g, cap, cur, e, _, hg, _, _, hcs, _⟩
    · simp at e
    · simp only [Value.slice.injEq, Option.some.injEq, Addr.mk.injEq, and_true, true_and] at e
      obtain ⟨e1, e2⟩ := e
      rw [← e1] at hg
      rw [← e2] at hcs
      exact ⟨cur, hg, by omega, fun j h1 h2 => absurd h1 (by omega)⟩
  case round =>
    obtain ⟨m, x, y, hm, rfl, rfl, rfl, HX, B⟩ := hrel
    by_cases h0 : 0 < m
    · obtain ⟨j, rfl⟩ : ∃ j, m = j + 1 := ⟨m - 1, by omega⟩
      obtain ⟨ha, hcj, hz1', hz2'⟩ := unhide HC j (by omega)
      subst ha
      have hb : b < w.heap.size := World.block_lt_of_cell? w _ hcj
      have hcj' : wr.cell? ⟨b, off + j, none⟩ = some (.int .u8 (zs.getD j 0)) := by rw [B.bel.cell (by simpa using hb)]; exact hcj
      obtain ⟨z, hzz⟩ : ∃ z, z = zs.getD j 0 := ⟨_, rfl⟩
      rw [← hzz] at hcj' hz1' hz2'
      have HZ := hide hzz
      obtain ⟨cur, hcur, hcs, _⟩ := B.row
      have hx0 : ∃ u, wr.cell? ⟨w.heap.size, j, none⟩ = some u := ⟨_, by rw [cell_at hcur]; exact Array.getElem?_eq_getElem (by omega)⟩
      have hf0 : wr.frozen? ⟨w.heap.size, j, none⟩ = false := by unfold World.frozen?; rw [hcur]; simp
      obtain ⟨u, hu⟩ := hx0
      have hX : 48 + z % 10 = (X zs).getD j 0 := by
        rw [hzz]; simp [X, List.getD_eq_getElem?_getD, show j < zs.length by omega]
      have HB := hide (B.put (by omega) hX)
      clear B hcur hcs hzz hcj hX
      go_wp2
      go_roundw
      case rel =>
        refine ⟨j, _, _, by omega, by go_num, rfl, rfl, ⟨?_, ?_⟩, unhide HB⟩
        · rw [wrapU', wrapU', (unhide HX).1, (unhide HX).2, unhide HZ, ← hz]
          exact L_step zs j (by omega)
        · rw [wrapU', (unhide HX).2, show n - j = n - (j + 1) + 1 from by omega]
          exact pow_step _
      case measure => simp [intOf]
    · obtain rfl : m = 0 := by omega
      obtain ⟨cur, hcur, hcs, hcj⟩ := B.row
      by_cases hbad : bd = true ∧ 0 < n
      · obtain ⟨rfl, hn⟩ := hbad
        obtain ⟨j, hj⟩ : ∃ j : Nat, p % (n : Int) = (j : Int) := ⟨(p % (n : Int)).toNat, by have := Int.emod_nonneg p (show (n : Int) ≠ 0 by omega); omega⟩
        have hjn : j < n := by have := Int.emod_lt_of_pos p (show 0 < (n : Int) by omega); omega
        have hj0 : (0 : Int) ≤ (j : Int) := by omega
        have hj1 : (j : Int) < (n : Int) := by omega
        have hu : ∃ u, wr.cell? ⟨w.heap.size, j, none⟩ = some u := ⟨_, by rw [cell_at hcur]; exact Array.getElem?_eq_getElem (by omega)⟩
        have hf0 : wr.frozen? ⟨w.heap.size, j, none⟩ = false := by unfold World.frozen?; rw [hcur]; simp
        obtain ⟨u, hu⟩ := hu
        obtain ⟨S, hS⟩ : ∃ S, S = strOfNums ((X zs).set j (badOf k)) := ⟨_, rfl⟩
        have hSs : S.size = n := by rw [hS, strOfNums_size]; simp [X, hz]
        have hcv : ∀ nq, (convert 25 9 (.slice (some ⟨w.heap.size, 0, none⟩) n n)).run Yba.prog ((wr.setCell ⟨w.heap.size, j, none⟩ (.int .u8 (badOf k))).drewN nq) = .ok (.string S) ((wr.setCell ⟨w.heap.size, j, none⟩ (.int .u8 (badOf k))).drewN nq) := fun nq => by
          rw [hS]
          refine run_convert_bytes_arg _ 25 5 Yba.underlying25 Yba.underlying5 w.heap.size 0 n n _ (by simp [X, hz]) (fun i hi' => ?_) 9 Yba.underlying9
          have h2 := heap_setCell_same wr w.heap.size j cur 5 (.int .u8 (badOf k)) hcur
          show (wr.setCell ⟨w.heap.size, j, none⟩ (.int .u8 (badOf k))).cell? _ = _
          rw [Nat.zero_add, cell_at h2, Array.getElem?_setIfInBounds, List.getD_eq_getElem?_getD, List.getElem?_set]
          by_cases e : j = i
          · subst e
            rw [if_pos rfl, if_pos (by omega), if_pos rfl, if_pos (by simp [X, hz]; omega)]; rfl
          · rw [if_neg e, if_neg e, hcj i (Nat.zero_le _) hi', List.getD_eq_getElem?_getD]
        have hdg : dg S.data.toList = -1 := by
          have hmem : UInt8.ofNat (badOf k).toNat ∈ S.data.toList := by
            rw [hS, strOfNums_data]
            exact List.mem_map_of_mem (List.mem_set (by simp [X, hz]; omega) _)
          unfold dg
          rw [if_neg]
          intro hall
          rw [List.all_eq_true] at hall
          have h1 := hall _ hmem
          rw [badOf_not] at h1
          cases h1
        have hbel : Below w.heap.size w (wr.setCell ⟨w.heap.size, j, none⟩ (.int .u8 (badOf k))) := B.bel.setCell (Nat.le_refl _) _
        have HS := hide hS
        have HDG := hide hdg
        have HBL := hide hbel
        clear hS hdg hbel B hcur hcs hcj HX HC HO HG
        go_wp2
        go_cut [] (fun wx => ∃ nq, wx = (wr.setCell ⟨w.heap.size, j, none⟩ (.int .u8 (badOf k))).drewN nq)
        case first =>
          go_region_with (go_at_call 6; refine (bad_any k _ hk hk').mono ?_; rintro e w' ⟨rfl, rfl⟩)
          all_goals
            go_wp2_with fail
            go_meet
            exact ⟨1, rfl⟩
        case rest =>
          obtain ⟨nq, rfl⟩ := hcut
          go_wp2_with fail
          refine (digits_any S _ (by unfold maxLen; omega)).mono ?_
          rintro e w' ⟨rfl, rfl⟩
          rw [unhide HDG]
          go_wp2
          go_ret
          exact ⟨rfl, (unhide HBL).trans ⟨rfl, rfl, rfl, Nat.le_refl _, fun _ _ => rfl⟩⟩
      · obtain ⟨S, hS⟩ : ∃ S, S = strOfNums (X zs) := ⟨_, rfl⟩
        have hSs : S.size = n := by rw [hS, strOfNums_size]; simp [X, hz]
        have hcv : (convert 25 9 (.slice (some ⟨w.heap.size, 0, none⟩) n n)).run Yba.prog wr = .ok (.string S) wr := by
          rw [hS]
          exact run_convert_bytes_arg _ 25 5 Yba.underlying25 Yba.underlying5 w.heap.size 0 n n _ (by simp [X, hz]) (fun i hi' => by rw [Nat.zero_add, cell_at hcur]; exact hcj i (Nat.zero_le _) hi') 9 Yba.underlying9
        obtain ⟨D, hD⟩ : ∃ D, D = dg S.data.toList := ⟨_, rfl⟩
        have hDx : (D == wrap64 x) = true := by
          have h1 : S.data.toList = L zs := by rw [hS, strOfNums_data]; rfl
          rw [hD, h1]
          unfold dg
          rw [if_pos (L_all zs), (unhide HX).1, wrap_u64]
          simp
        have hb := B.bel
        have HBL := hide hb
        have HD := hide hD
        have HS := hide hS
        clear B hcur hcs hcj hS hD hb HX HC HO HG
        cases bd with
        | false =>
          go_wp2_with fail
          refine (digits_any S _ (by unfold maxLen; omega)).mono ?_
          rintro e w' ⟨rfl, rfl⟩
          rw [← unhide HD]
          go_wp2
          go_ret
          exact ⟨rfl, unhide HBL⟩
        | true =>
          obtain rfl : n = 0 := by
            rcases Nat.eq_zero_or_pos n with h' | h'
            · exact h'
            · exact absurd ⟨rfl, h'⟩ hbad
          clear hbad
          go_wp2_with fail
          refine (digits_any S _ (by unfold maxLen; omega)).mono ?_
          rintro e w' ⟨rfl, rfl⟩
          rw [← unhide HD]
          go_wp2
          go_ret
          exact ⟨rfl, unhide HBL⟩
end Go.Proofs.Ybulkcdze
