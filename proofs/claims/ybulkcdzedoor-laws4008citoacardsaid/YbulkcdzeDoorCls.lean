/- The walks of ledger.sumClass, summedWith, the model, the picker, and of the two laws over them. -/
import Derived.Test.YbulkcdzeDoorProg
import Derived.WalkKit
import Derived.LoopTactic
import Derived.KernelRfl
namespace Go.Proofs.YbulkcdzeDoor
open Go.RowKit

theorem hide {p : Prop} (h : p) : Hid p := h
theorem unhide {p : Prop} (h : Hid p) : p := h

def GG : List UInt8 := [103, 105, 102, 116, 45, 114, 101, 99, 101, 105, 118, 101, 100]
def G0 : List UInt8 := [103, 117, 97, 114, 97, 110, 116, 101, 101]
def G1 : List UInt8 := [102, 105, 110, 97, 110, 99, 105, 97, 108, 45, 97, 105, 100]
def G2 : List UInt8 := [119, 101, 97, 108, 116, 104, 45, 109, 97, 110, 97, 103, 101, 109, 101, 110, 116]
/-- The class of a kind. -/
def cls (l : List UInt8) : Int := if (l == GG) = true then -1 else if (l == G0) = true then 1 else if (l == G1) = true then 2 else if (l == G2) = true then 3 else 0

set_option maxRecDepth 100000 in
theorem model_any (s : ByteArray) (w : World) : Calls Ybad.prog 8 #[.string s] w fun e w' => e = .returned (.int .i64 (cls s.toList)) ∧ w' = w := by
  unfold cls
  cases hg : s.toList == GG
  · cases h0 : s.toList == G0
    · cases h1 : s.toList == G1
      · cases h2 : s.toList == G2
        all_goals
          unfold GG at hg; unfold G0 at h0; unfold G1 at h1; unfold G2 at h2
          go_enter Ybad.func8, Ybad.ntmps8
          go_wp2
          go_ret
          exact ⟨rfl, rfl⟩
      · unfold GG at hg; unfold G0 at h0; unfold G1 at h1
        go_enter Ybad.func8, Ybad.ntmps8
        go_wp2
        go_ret
        exact ⟨rfl, rfl⟩
    · unfold GG at hg; unfold G0 at h0
      go_enter Ybad.func8, Ybad.ntmps8
      go_wp2
      go_ret
      exact ⟨rfl, rfl⟩
  · unfold GG at hg
    go_enter Ybad.func8, Ybad.ntmps8
    go_wp2
    go_ret
    exact ⟨rfl, rfl⟩

/-- What the variable 'apart' holds. -/
structure Apt (w : World) (bA oA cA : Nat) (ap : Nat → ByteArray) : Prop where
  var : w.cell? ⟨0, 0, none⟩ = some (.slice (some ⟨bA, oA, none⟩) 3 cA)
  cells : ∀ i, i < 3 → w.cell? ⟨bA, oA + i, none⟩ = some (.string (ap i))
  a0 : (ap 0).toList = G0
  a1 : (ap 1).toList = G1
  a2 : (ap 2).toList = G2

set_option maxRecDepth 100000 in
theorem sum_gift (s : ByteArray) (w : World) (hg : (s.toList == GG) = true) : Calls Ybad.prog 7 #[.string s] w fun e w' => e = .returned (.int .i64 (-1)) ∧ w' = w := by
  unfold GG at hg
  go_enter Ybad.func7, Ybad.ntmps7
  go_wp2
  go_ret
  exact ⟨rfl, rfl⟩

set_option maxRecDepth 100000 in
theorem sum_at (s : ByteArray) (w : World) {bA oA cA : Nat} {ap : Nat → ByteArray} (H : Apt w bA oA cA ap) (hg : (s.toList == GG) = false) (K : Nat) (hK : K ≤ 3) (hne : ∀ i, i < K → (s.toList == (ap i).toList) = false) (heq : K < 3 → (s.toList == (ap K).toList) = true) :
    Calls Ybad.prog 7 #[.string s] w fun e w' => e = .returned (.int .i64 (if K < 3 then (K : Int) + 1 else 0)) ∧ w' = w := by
  unfold GG at hg
  have hv := H.var
  have HC := hide H.cells
  have HN := hide hne
  have HE := hide heq
  clear H hne heq
  go_enter Ybad.func7, Ybad.ntmps7
  go_wp2
  go_loop [9] (fun i => ∃ k : Nat, k ≤ K ∧ i = .int .i64 k) (fun i => 3 - (intOf i).toNat)
  case atStart => exact ⟨0, Nat.zero_le _, rfl⟩
  case round =>
    obtain ⟨k, hk, rfl⟩ := hrel
    by_cases hlt : k < K
    · have hc := unhide HC k (by omega)
      have hn := unhide HN k hlt
      obtain ⟨x, hx⟩ : ∃ x, x = ap k := ⟨_, rfl⟩
      rw [← hx] at hc hn
      clear hx
      go_wp2
      go_round
      case rel => exact ⟨k + 1, by omega, by go_num⟩
      case measure => simp [intOf]; omega
    · obtain rfl : k = K := by omega
      by_cases h3 : k < 3
      · have hc := unhide HC k h3
        have he := unhide HE h3
        obtain ⟨x, hx⟩ : ∃ x, x = ap k := ⟨_, rfl⟩
        rw [← hx] at hc he
        clear hx
        go_wp2
        go_ret
        exact ⟨rfl, rfl⟩
      · go_wp2
        go_ret
        exact ⟨rfl, rfl⟩

theorem sum_any (s : ByteArray) (w : World) {bA oA cA : Nat} {ap : Nat → ByteArray} (H : Apt w bA oA cA ap) : Calls Ybad.prog 7 #[.string s] w fun e w' => e = .returned (.int .i64 (cls s.toList)) ∧ w' = w := by
  unfold cls
  cases hg : s.toList == GG
  · cases h0 : s.toList == G0
    · cases h1 : s.toList == G1
      · cases h2 : s.toList == G2
        · exact sum_at s w H hg 3 (by omega) (fun i hi => by
            match i, hi with
            | 0, _ => rw [H.a0]; exact h0
            | 1, _ => rw [H.a1]; exact h1
            | 2, _ => rw [H.a2]; exact h2) (fun h => absurd h (by omega))
        · exact sum_at s w H hg 2 (by omega) (fun i hi => by
            match i, hi with
            | 0, _ => rw [H.a0]; exact h0
            | 1, _ => rw [H.a1]; exact h1) (fun _ => by rw [H.a2]; exact h2)
      · exact sum_at s w H hg 1 (by omega) (fun i hi => by
          match i, hi with
          | 0, _ => rw [H.a0]; exact h0) (fun _ => by rw [H.a1]; exact h1)
    · exact sum_at s w H hg 0 (by omega) (fun i hi => absurd hi (by omega)) (fun _ => by rw [H.a0]; exact h0)
  · exact sum_gift s w hg

set_option maxRecDepth 100000 in
theorem pick_any (sel : Int) (s : ByteArray) (w : World) (h0 : 0 ≤ sel) (h1 : sel ≤ 255) : Calls Ybad.prog 6 #[.int .u8 sel, .string s] w fun e w' => (∃ k, e = .returned (.string k)) ∧ w' = w := by
  have h : sel % 10 = 0 ∨ sel % 10 = 1 ∨ sel % 10 = 2 ∨ sel % 10 = 3 ∨ sel % 10 = 4 ∨ sel % 10 = 5 ∨ sel % 10 = 6 ∨ (7 ≤ sel % 10 ∧ sel % 10 ≤ 9) := by omega
  rcases h with h | h | h | h | h | h | h | h
  all_goals
    go_enter Ybad.func6, Ybad.ntmps6
    go_wp2
    go_ret
    exact ⟨⟨_, rfl⟩, rfl⟩

set_option maxRecDepth 100000 in
theorem exact_any (sel : Int) (s : ByteArray) (w : World) {bA oA cA : Nat} {ap : Nat → ByteArray} (H : Apt w bA oA cA ap) (h0 : 0 ≤ sel) (h1 : sel ≤ 255) : Calls Ybad.prog 3 #[.int .u8 sel, .string s] w fun e w' => e = .returned (.bool true) ∧ w' = w := by
  have HH := hide H
  clear H
  go_enter Ybad.func3, Ybad.ntmps3
  go_wp2_with fail
  refine (pick_any sel s _ h0 h1).mono ?_
  rintro e w' ⟨⟨k, rfl⟩, rfl⟩
  go_wp2_with fail
  refine (sum_any k _ (unhide HH)).mono ?_
  rintro e w' ⟨rfl, rfl⟩
  go_wp2_with fail
  refine (model_any k _).mono ?_
  rintro e w' ⟨rfl, rfl⟩
  obtain ⟨x, hx⟩ : ∃ x, x = cls k.toList := ⟨_, rfl⟩
  rw [← hx]
  clear hx
  have hxx : (x == x) = true := by simp
  go_wp2
  go_ret
  exact ⟨rfl, rfl⟩

set_option maxRecDepth 100000 in
theorem summed_any (a b : ByteArray) (w : World) {bA oA cA : Nat} {ap : Nat → ByteArray} (H : Apt w bA oA cA ap) : Calls Ybad.prog 9 #[.string a, .string b] w fun e w' => e = .returned (.bool (decide (0 ≤ cls a.toList) && (cls a.toList == cls b.toList))) ∧ w' = w := by
  have HH := hide H
  clear H
  go_enter Ybad.func9, Ybad.ntmps9
  go_wp2_with fail
  refine (sum_any a _ (unhide HH)).mono ?_
  rintro e w' ⟨rfl, rfl⟩
  obtain ⟨x, hx⟩ : ∃ x, x = cls a.toList := ⟨_, rfl⟩
  rw [← hx]
  have HX := hide hx
  clear hx
  by_cases h : 0 ≤ x
  · have hd : decide (0 ≤ x) = true := by simp [h]
    go_wp2_with fail
    refine (sum_any b _ (unhide HH)).mono ?_
    rintro e w' ⟨rfl, rfl⟩
    obtain ⟨y, hy⟩ : ∃ y, y = cls b.toList := ⟨_, rfl⟩
    rw [← hy]
    have HY := hide hy
    clear hy
    go_wp2
    go_ret
    exact ⟨by rw [← unhide HX, ← unhide HY, hd]; rfl, rfl⟩
  · have hd : decide (0 ≤ x) = false := by simp; omega
    go_wp2
    go_ret
    exact ⟨by rw [← unhide HX, hd]; rfl, rfl⟩

set_option maxRecDepth 100000 in
set_option maxHeartbeats 800000 in
theorem summedWith_any (sa sb : Int) (s t : ByteArray) (w : World) {bA oA cA : Nat} {ap : Nat → ByteArray} (H : Apt w bA oA cA ap) (h0 : 0 ≤ sa) (h1 : sa ≤ 255) (h2 : 0 ≤ sb) (h3 : sb ≤ 255) : Calls Ybad.prog 4 #[.int .u8 sa, .int .u8 sb, .string s, .string t] w fun e w' => e = .returned (.bool true) ∧ w' = w := by
  have HH := hide H
  clear H
  go_enter Ybad.func4, Ybad.ntmps4
  go_wp2_with fail
  refine (pick_any sa s _ h0 h1).mono ?_
  rintro e w' ⟨⟨a, rfl⟩, rfl⟩
  go_wp2_with fail
  refine (pick_any sb t _ h2 h3).mono ?_
  rintro e w' ⟨⟨b, rfl⟩, rfl⟩
  go_wp2_with fail
  refine (model_any a _).mono ?_
  rintro e w' ⟨rfl, rfl⟩
  go_wp2_with fail
  refine (model_any b _).mono ?_
  rintro e w' ⟨rfl, rfl⟩
  have hs := summed_any a b w' (unhide HH)
  obtain ⟨x, hx⟩ : ∃ x, x = cls a.toList := ⟨_, rfl⟩
  obtain ⟨y, hy⟩ : ∃ y, y = cls b.toList := ⟨_, rfl⟩
  rw [← hx, ← hy]
  rw [← hx, ← hy] at hs
  have HS := hide hs
  clear hx hy hs
  by_cases h : 0 ≤ x
  · have hd : decide (0 ≤ x) = true := by simp [h]
    go_wp2_with fail
    refine (unhide HS).mono ?_
    rintro e w'' ⟨rfl, rfl⟩
    cases hxy : x == y
    all_goals
      go_wp2
      go_ret
      exact ⟨rfl, rfl⟩
  · have hd : decide (0 ≤ x) = false := by simp; omega
    go_wp2_with fail
    refine (unhide HS).mono ?_
    rintro e w'' ⟨rfl, rfl⟩
    go_wp2
    go_ret
    exact ⟨rfl, rfl⟩
end Go.Proofs.YbulkcdzeDoor
