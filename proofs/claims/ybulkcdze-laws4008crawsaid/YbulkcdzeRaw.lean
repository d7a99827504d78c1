/- The walk of date.LawS4008CRaw. -/
import Derived.Test.YbulkcdzeDigits
namespace Go.Proofs.Ybulkcdze
open Go.RowKit
open Go.Proofs.Ybulkcdze.Dec

set_option maxRecDepth 100000 in
theorem raw_big (s : ByteArray) (w : World) (hs : s.size ≤ 9223372036854775807) (h : 1024 < s.size) : Calls Yba.prog 3 #[.string s] w fun e w' => e = .returned (.bool true) ∧ w' = w := by
  go_enter Yba.func3, Yba.ntmps3
  go_wp2
  go_ret
  exact ⟨rfl, rfl⟩

theorem all_yes {c : UInt8} {s : ByteArray} {k : Nat} {b : Bool} (ht : s.data.toList.take (k + 1) = s.data.toList.take k ++ [c]) (hb : b = (s.data.toList.take k).all isD) (hd : isD c = true) : Hid (b = (s.data.toList.take (k + 1)).all isD) := by
  show b = _
  rw [ht, List.all_append, ← hb, List.all_cons, List.all_nil, hd]; simp
theorem all_no {c : UInt8} {s : ByteArray} {k : Nat} (ht : s.data.toList.take (k + 1) = s.data.toList.take k ++ [c]) (hd : isD c = false) : Hid (false = (s.data.toList.take (k + 1)).all isD) := by
  show false = _
  rw [ht, List.all_append, List.all_cons, hd]; simp

theorem wrapU (z : Int) : IntKind.u64.wrap z = u64 z := by simp [IntKind.wrap, u64, IntKind.bits, IntKind.signed]

theorem drop_cons (s : ByteArray) (k : Nat) (h : k < s.size) : s.data.toList.drop k = s[k] :: s.data.toList.drop (k + 1) := by
  rw [List.drop_eq_getElem_cons (by simpa using h)]; rfl

set_option maxRecDepth 100000 in
set_option maxHeartbeats 1600000 in
theorem raw_small (s : ByteArray) (w : World) (h : s.size ≤ 1024) : Calls Yba.prog 3 #[.string s] w fun e w' => e = .returned (.bool true) ∧ w' = w := by
  have hbig : decide (1024 < (s.size : Int)) = false := by simp; omega
  go_enter Yba.func3, Yba.ntmps3
  go_wp2
  go_loop [3, 4] (fun ok i => ∃ (k : Nat) (b : Bool), k ≤ s.size ∧ i = .int .i64 k ∧ ok = .bool b ∧ Hid (b = (s.data.toList.take k).all isD)) (fun _ i => s.size - (intOf i).toNat)
  case atStart => exact ⟨0, true, Nat.zero_le _, rfl, rfl, rfl⟩
  case round =>
    obtain ⟨k, b, hk, rfl, rfl, HB⟩ := hrel
    by_cases hlt : k < s.size
    · have HT := hide (take_snoc s k hlt)
      cases hd : isD s[k] with
      | true =>
        obtain ⟨c1, c2⟩ := isD_true hd
        have HD := hide hd
        clear hd
        go_wp2
        go_round
        case rel => exact ⟨k + 1, b, by omega, by go_num, rfl, all_yes (unhide HT) (unhide HB) (unhide HD)⟩
        case measure => simp [intOf]; omega
      | false =>
        have hc := isD_false hd
        have HD := hide hd
        clear hd
        rcases hc with hc | hc
        · go_wp2
          go_round
          case rel => exact ⟨k + 1, false, by omega, by go_num, rfl, all_no (unhide HT) (unhide HD)⟩
          case measure => simp [intOf]; omega
        · have hle : decide ((s[k].toNat : Int) ≤ 57) = false := by simp; omega
          go_wp2
          go_round
          case rel => exact ⟨k + 1, false, by omega, by go_num, rfl, all_no (unhide HT) (unhide HD)⟩
          case measure => simp [intOf]; omega
    · have hfull : s.data.toList.take k = s.data.toList := List.take_of_length_le (by simp; omega)
      have hb : b = s.data.toList.all isD := by rw [← hfull]; exact unhide HB
      clear hfull
      obtain ⟨D, hD⟩ : ∃ D, D = dg s.data.toList := ⟨_, rfl⟩
      cases b with
      | false =>
        have hd1 : D = -1 := by rw [hD]; unfold dg; rw [← hb]; rfl
        have hdb : (D == -1) = true := by rw [hd1]; rfl
        have HD := hide hD
        clear hD hb hd1
        go_wp2_with fail
        refine (digits_any s _ (by unfold maxLen; omega)).mono ?_
        rintro e w' ⟨rfl, rfl⟩
        rw [← unhide HD]
        go_wp2
        go_ret
        exact ⟨rfl, rfl⟩
      | true =>
        have HB2 := hide hb
        have hd1 : D = wrap64 (hv s.data.toList) := by rw [hD]; unfold dg; rw [← hb]; rfl
        have HD := hide hD
        have HD1 := hide hd1
        clear hD hb hd1
        go_wp2_with fail
        refine (digits_any s _ (by unfold maxLen; omega)).mono ?_
        rintro e w' ⟨rfl, rfl⟩
        rw [← unhide HD]
        go_wp2
        go_loop [6, 7, 8] (fun v p i => ∃ (m : Nat) (x y : Int), m ≤ s.size ∧ i = .int .i64 ((m : Int) - 1) ∧ v = .int .u64 x ∧ p = .int .u64 y ∧ Hid (x = u64 (hv (s.data.toList.drop m)) ∧ y = u64 (10 ^ (s.size - m)))) (fun _ _ i => (intOf i + 1).toNat)
        case atStart => exact ⟨s.size, 0, 1, Nat.le_refl _, rfl, rfl, rfl, by rw [List.drop_of_length_le (by simp)]; rfl, by simp [u64]⟩
        case round =>
          obtain ⟨m, x, y, hm, rfl, rfl, rfl, HX⟩ := hrel
          by_cases h0 : 0 < m
          · obtain ⟨j, rfl⟩ : ∃ j, m = j + 1 := ⟨m - 1, by omega⟩
            have HC := hide (drop_cons s j (by omega))
            have hjl : j < s.size := by omega
            have hdj : isD s[j] = true := by
              have := (unhide HB2).symm
              rw [List.all_eq_true] at this
              exact this s[j] (List.getElem_mem (l := s.data.toList) (n := j) (by simpa using hjl))
            obtain ⟨c1, c2⟩ := isD_true hdj
            clear hdj
            go_wp2
            go_round
            case rel =>
              refine ⟨j, _, _, by omega, by go_num, rfl, rfl, ?_, ?_⟩
              · rw [wrapU, wrapU, (unhide HX).1, (unhide HX).2, unhide HC]
                have hl : s.size - (j + 1) = (s.data.toList.drop (j + 1)).length := by simp
                rw [hl]
                exact sum_step _ _
              · rw [wrapU, (unhide HX).2, show s.size - j = s.size - (j + 1) + 1 from by omega]
                exact pow_step _
            case measure => simp [intOf]
          · obtain rfl : m = 0 := by omega
            have hx : wrap64 x = D := by rw [(unhide HX).1, wrap_u64, unhide HD1]; rfl
            have hxx : (D == wrap64 x) = true := by rw [hx]; simp
            clear hx
            go_wp2
            go_ret
            exact ⟨rfl, rfl⟩
end Go.Proofs.Ybulkcdze
