/- The contracts of slices.Clone, slices.Equal (at []int) and of engine.missing. -/
import Derived.Test.YbulkcdyqBase
import Derived.WalkSpells
import Derived.WalkSmall
import Derived.LoopTactic
import Derived.LoopN
import Derived.Deep.QuietTactic
import Derived.BigQuiet
namespace Go.Proofs.Ybulkcdyq
open Go.RowKit

def refCells (v : Int) (h : Bool) (t i : Int) : Array Value := #[.int .u8 v, .bool false, .bool false, .bool false, .bool h, .int .u8 t, .int .u8 i, .slice none 0 0]

theorem missing_any (w : World) : Calls Yba.prog 8 #[.int .u8 93, .int .u8 0] w fun e w' => e = .returned (.pointer (some ⟨w.heap.size, 0, none⟩)) ∧ w' = w.alloc (.cells (refCells 70 true 93 0) 37) := by
  go_enter Yba.func8, Yba.ntmps8
  go_wp2
  go_ret
  exact ⟨rfl, rfl⟩

theorem eqNil23 (w : World) (a : Option Addr) (n c : Nat) : (binOp .eql 23 (.slice a n c) (.slice none 0 0)).run Yba.prog w = .ok (.bool a.isNone) w := Lib.run_eql_slice_nil w 23 3 a n c 0 0 Yba.underlying23

theorem clone_nil (w : World) : Calls Yba.prog 5 #[.slice none 0 0] w fun e w' => e = .returned (.slice none 0 0) ∧ w' = w := by
  have hn := eqNil23
  go_enter Yba.func5, Yba.ntmps5
  go_wp2
  go_ret
  exact ⟨rfl, rfl⟩

set_option maxRecDepth 100000 in
theorem clone_some (x : Addr) (n c : Nat) (ds : List Int) (w : World) (hl : ds.length = n) (hn1 : n ≤ 1024) (hc : ∀ i, i < n → w.cell? (x.add i) = some (.int .i64 (ds.getD i 0))) :
    Calls Yba.prog 5 #[.slice (some x) n c] w fun e w' => ∃ g cap, e = .returned (.slice (some ⟨g, 0, none⟩) n cap) ∧ w'.ownsRow w.heap.size 3 1 (.slice (some ⟨g, 0, none⟩) n cap) n (ds.map (Value.int .i64)) ∧ Below w.heap.size w w' := by
  obtain ⟨i0, hi, hz0, hz1, hz2⟩ := info_parts Yba.info3
  have hn := eqNil23
  have hown : (w.alloc (.cells #[] 3)).ownsRow w.heap.size 3 1 (.slice (some ⟨w.heap.size, 0, none⟩) 0 0) 0 [] := World.ownsRow_lit w #[] 0 (Nat.le_refl _) (by decide) rfl
  have hnews : ∀ j u, (ds.map (Value.int .i64))[j]? = some u → (w.alloc (.cells #[] 3)).cell? (x.add j) = some u := fun j u hj => by
    rw [List.getElem?_map, Option.map_eq_some_iff] at hj
    obtain ⟨d, hd, rfl⟩ := hj
    obtain ⟨hlt, hd'⟩ := List.getElem?_eq_some_iff.1 hd
    have h1 := hc j (by omega)
    have h2 : (x.add j).block < w.heap.size := by
      unfold World.cell? at h1
      cases ho : w.heap[(x.add j).block]? with
      | none => simp [ho] at h1
      | some o => exact lt_of_some ho
    rw [((Below.refl w.heap.size w).alloc (Nat.le_refl _) _).cell h2, h1, List.getD_eq_getElem?_getD, hd]
    rfl
  have HC : Hid (∀ i, i < n → w.cell? (x.add i) = some (.int .i64 (ds.getD i 0))) := hc
  clear hc
  go_enter Yba.func5, Yba.ntmps5
  go_wp2_with (at_builtin; refine wpList_append_own _ rfl _ _ 23 rfl w.heap.size 3 i0 (.int .i64 0) 1 8 Yba.underlying23 hi hz0 hz1 hz2 rfl (by decide) _ _ _ rfl hown x n c (ds.map (Value.int .i64)) rfl (by simp [hl]) hnews (ints_oneCell _ _) (by unfold maxLen; omega) (by omega) (by simp) ?_)
  intro v' w1 hown' hgrow hnil
  have hne : v' ≠ .slice none 0 0 := hnil
  have hb : Below w.heap.size w w1 := ((Below.refl _ _).alloc (Nat.le_refl _) _).grown hgrow (by simp) (fun k hk => by simp [Value.ownBlock] at hk; omega)
  have hex : ∃ g cap, v' = .slice (some ⟨g, 0, none⟩) n cap := by
    rcases hown'.2 with ⟨h, _⟩ | ⟨g, cap, cur, h, _⟩
    · exact absurd h hne
    · exact ⟨g, cap, h⟩
  obtain ⟨g, cap, hv⟩ := hex
  rw [hv] at hown' ⊢
  clear hnews hown hnil hgrow hne hv
  go_wp2
  go_ret
  exact ⟨g, cap, rfl, hown', hb⟩

theorem equal_zero (a1 a2 : Option Addr) (c1 c2 : Nat) (w : World) : Calls Yba.prog 7 #[.slice a1 0 c1, .slice a2 0 c2] w fun e w' => e = .returned (.bool true) ∧ ∃ n, w' = w.drewN n := by
  go_enter Yba.func7, Yba.ntmps7
  go_wp2
  refine wp_loop_rounds 1 ?_
  rw [rounds_succ]
  go_wp2
  go_ret
  exact ⟨rfl, 0, rfl⟩

set_option maxRecDepth 100000 in
theorem equal_pos (b1 b2 o1 o2 n c1 c2 : Nat) (ds : List Int) (w : World) (hn : n ≤ 1024) (h1 : ∀ i, i < n → w.cell? ⟨b1, o1 + i, none⟩ = some (.int .i64 (ds.getD i 0))) (h2 : ∀ i, i < n → w.cell? ⟨b2, o2 + i, none⟩ = some (.int .i64 (ds.getD i 0))) :
    Calls Yba.prog 7 #[.slice (some ⟨b1, o1, none⟩) n c1, .slice (some ⟨b2, o2, none⟩) n c2] w fun e w' => e = .returned (.bool true) ∧ ∃ n, w' = w.drewN n := by
  have H1 := hide h1
  have H2 := hide h2
  clear h1 h2
  go_enter Yba.func7, Yba.ntmps7
  go_wp2
  go_loopw [13] (fun i wr => ∃ k q : Nat, k ≤ n ∧ i = .int .i64 k ∧ wr = w.drewN q) (fun i _ => n - (intOf i).toNat)
  case atStart => exact ⟨0, 0, Nat.zero_le _, rfl, rfl⟩
  case round =>
    obtain ⟨k, q, hk, rfl, rfl⟩ := hrel
    by_cases hlt : k < n
    · have g1 := unhide H1 k hlt
      have g2 := unhide H2 k hlt
      have hlt' : (k : Int) < (n : Int) := by omega
      have hk0 : (0 : Int) ≤ (k : Int) := by omega
      go_wp2
      go_quiet (fail)
      go_wp2
      go_roundw
      case rel => exact ⟨k + 1, _, by omega, by go_num, rfl⟩
      case measure => simp [intOf]; omega
    · go_wp2
      go_ret
      exact ⟨rfl, _, rfl⟩
end Go.Proofs.Ybulkcdyq
