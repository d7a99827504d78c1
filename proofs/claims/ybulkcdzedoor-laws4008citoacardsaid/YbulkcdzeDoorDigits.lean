/- The contract of date.digits. -/
import Derived.Test.YbulkcdzeDoorCls
import Derived.Test.YbulkcdzeDoorDec
import Derived.WalkKit
import Derived.LoopTactic
import Derived.KernelRfl
namespace Go.Proofs.YbulkcdzeDoor
open Go.RowKit
open Go.Proofs.YbulkcdzeDoor.Dec

theorem ret_int {k : IntKind} {a b : Int} (h : a = b) : Ending.returned (.int k a) = .returned (.int k b) := by rw [h]
theorem take_snoc (s : ByteArray) (k : Nat) (h : k < s.size) : s.data.toList.take (k + 1) = s.data.toList.take k ++ [s[k]] := by
  rw [List.take_succ_eq_append_getElem (by simpa using h)]; rfl

theorem dg_bad (s : ByteArray) (k : Nat) (h : k < s.size) (hd : isD s[k] = false) : dg s.data.toList = -1 := by
  have : s.data.toList.all isD = false := by
    rw [List.all_eq_false]
    exact ⟨s[k], List.getElem_mem (l := s.data.toList) (n := k) (by simpa using h), by simp [hd]⟩
  unfold dg
  rw [this]
  rfl

set_option maxRecDepth 100000 in
set_option maxHeartbeats 800000 in
theorem digits_any (s : ByteArray) (w : World) (hs : s.size ≤ maxLen) :
    Calls Ybad.prog 11 #[.string s] w fun e w' => e = .returned (.int .i64 (dg s.data.toList)) ∧ w' = w := by
  unfold maxLen at hs
  go_enter Ybad.func11, Ybad.ntmps11
  go_wp2
  go_loop [3, 4] (fun n i => ∃ (k : Nat) (x : Int), k ≤ s.size ∧ i = .int .i64 k ∧ n = .int .i64 x ∧ Hid (x = wrap64 (hv (s.data.toList.take k)) ∧ (s.data.toList.take k).all isD = true)) (fun _ i => s.size - (intOf i).toNat)
  case atStart => exact ⟨0, 0, Nat.zero_le _, rfl, rfl, by simp [hv, wrap64], rfl⟩
  case round =>
    obtain ⟨k, x, hk, rfl, rfl, HX⟩ := hrel
    by_cases hlt : k < s.size
    · have HT := hide (take_snoc s k hlt)
      cases hd : isD s[k] with
      | true =>
        obtain ⟨c1, c2⟩ := isD_true hd
        have HD := hide hd
        clear hd
        go_wp2
        go_round
        case rel =>
          refine ⟨k + 1, _, by omega, by go_num, rfl, ?_, ?_⟩
          · rw [unhide HT, hv_snoc, (unhide HX).1, wrap_step]
          · rw [unhide HT, List.all_append, (unhide HX).2]; simp [unhide HD]
        case measure => simp [intOf]; omega
      | false =>
        have hbad := dg_bad s k hlt hd
        have HB := hide hbad
        have hc := isD_false hd
        clear hd hbad
        rcases hc with hc | hc
        all_goals
          go_wp2
          go_ret
          exact ⟨ret_int (unhide HB).symm, rfl⟩
    · go_wp2
      go_ret
      refine ⟨ret_int ?_, rfl⟩
      have h := unhide HX
      rw [List.take_of_length_le (by simp; omega)] at h
      unfold dg
      rw [if_pos h.2, h.1]
end Go.Proofs.YbulkcdzeDoor
