/- The walk of date.LawS4008CItoa over the shelf's contract of strconv.Itoa. -/
import Derived.Test.YbulkcdzeDoorDigits
import Derived.Test.YbulkcdzeDoorRows
import Derived.Shelf.Strconv.Itoa3
import Derived.Shelf.Lay
import Derived.Ground.NamesProg
import Derived.Lib.ItoaLen
import Derived.Below
import Derived.MakeChecks
import Derived.Stop.LaidErr
import Derived.Lib.LaidTab
namespace Go.Proofs.YbulkcdzeDoor
open Go.RowKit Go.Shelf
open Go.Proofs.YbulkcdzeDoor.Dec

shelf_lay LaysM.n171 Nm 171 at Ybad as Ybad.laysItoa

/-- The third listed table's name. -/
def tabName : String := Rows.lawS4008CItoaRow.named.headD default

theorem itoa_call (n : Int) (h0 : 0 ≤ n) (h1 : n ≤ 9223372036854775807) (w : World) (htab : Lib.TabIs Ybad.prog w tabName .u64 Lib.pow10Tab) :
    Calls Ybad.prog 10 #[.int .i64 n] w fun e w' => e = .returned (.string ⟨(Lib.itoa n).toArray⟩) ∧ Below w.heap.size w w' := by
  refine (Any.strconv_Itoa Ybad.laysItoa n (by omega) h1 w htab).mono ?_
  rintro e w' ⟨he, k, os, hw⟩
  refine ⟨he, ?_⟩
  subst hw
  exact ⟨rfl, rfl, rfl, by simp, fun b hb => by
    show (w.heap ++ os)[b]? = w.heap[b]?
    exact Array.getElem?_append_left hb⟩

/-- The table, from the row's condition: it stands third on the list. -/
theorem tab_of_laid {W : World} (h : laidMetH Ybad.prog Rows.lawS4008CItoaRow.laid W) : Lib.TabIs Ybad.prog W tabName .u64 Lib.pow10Tab :=
  Lib.tabIs_of_head (g := 1) (t := 42) (e := 34) (n := 20) (rest := []) (by kernel_rfl) (by kernel_rfl) Ybad.underlying42 (by kernel_rfl) (by kernel_rfl) (by kernel_rfl)
    (laidMet.tail (laidMet.tail (by rw [MakeChecks.laidMetH_plain _ _ _ (by kernel_rfl)] at h; exact h)))

theorem zero_cat (k : Nat) (l : List UInt8) (t : ByteArray) (h : t.data.toList = List.replicate k 48 ++ l) : ((⟨#[48]⟩ : ByteArray) ++ t).data.toList = List.replicate (k + 1) 48 ++ l := by
  simp [ByteArray.data_append, h, List.replicate_succ]

set_option maxRecDepth 100000 in
set_option maxHeartbeats 800000 in
theorem itoaLaw_any (n z : Int) (hn0 : -9223372036854775808 ≤ n) (hn1 : n ≤ 9223372036854775807) (hz0 : 0 ≤ z) (hz1 : z ≤ 255) (w : World) (htab : Lib.TabIs Ybad.prog w tabName .u64 Lib.pow10Tab) :
    Calls Ybad.prog 5 #[.int .i64 n, .int .u8 z] w fun e w' => e = .returned (.bool true) ∧ Below w.heap.size w w' := by
  by_cases hneg : n < 0
  · go_enter Ybad.func5, Ybad.ntmps5
    go_wp2
    go_ret
    exact ⟨rfl, Below.refl _ _⟩
  · have hpos : 0 ≤ n := by omega
    have HT := hide htab
    clear htab
    obtain ⟨s, hs⟩ : ∃ s : ByteArray, s = ⟨(Lib.itoa n).toArray⟩ := ⟨_, rfl⟩
    have hsl : s.data.toList = Lib.itoa n := by rw [hs]
    have hsz : s.size ≤ 21 := by
      have := Lib.itoa_length_le n (by omega) (by omega)
      rw [← hsl] at this
      simpa using this
    have hd0 : dg s.data.toList = n := by
      have := dg_itoa n hpos hn1 0
      rw [hsl]; simpa using this
    have HL := hide hsl
    have HS := hide hs
    have HD := hide hd0
    clear hs hsl hd0
    go_enter Ybad.func5, Ybad.ntmps5
    go_wp2_with fail
    refine (itoa_call n hpos hn1 _ (unhide HT)).mono ?_
    rintro e w1 ⟨rfl, hb⟩
    rw [← unhide HS]
    go_wp2_with fail
    refine (digits_any s _ (by unfold maxLen; omega)).mono ?_
    rintro e w2 ⟨rfl, rfl⟩
    rw [unhide HD]
    go_wp2
    obtain ⟨m, hm⟩ : ∃ m : Int, m = z % 8 := ⟨_, rfl⟩
    rw [← hm]
    have hm0 : 0 ≤ m ∧ m < 8 := by omega
    obtain ⟨hm0, hm1⟩ := hm0
    clear hm
    go_loop [7, 8] (fun t i => ∃ (k : Nat) (b : ByteArray), (k : Int) ≤ m ∧ i = .int .i64 k ∧ t = .string b ∧ b.size ≤ 21 + k ∧ Hid (b.data.toList = List.replicate k 48 ++ Lib.itoa n)) (fun _ i => 8 - (intOf i).toNat)
    case atStart => exact ⟨0, s, by omega, rfl, rfl, by omega, hide (by simpa using unhide HL)⟩
    case round =>
      obtain ⟨k, b, hk, rfl, rfl, hbs, HB⟩ := hrel
      by_cases hlt : (k : Int) < m
      · go_wp2
        go_round
        case rel =>
          exact ⟨k + 1, _, by omega, by go_num, rfl, by rw [ByteArray.size_append, show (⟨#[48]⟩ : ByteArray).size = 1 from rfl]; omega, zero_cat k _ b (unhide HB)⟩
        case measure => simp [intOf]; omega
      · have hd1 : dg b.data.toList = n := by rw [unhide HB]; exact dg_itoa n hpos hn1 k
        have HE := hide hd1
        clear hd1
        go_wp2_with fail
        refine (digits_any b _ (by unfold maxLen; omega)).mono ?_
        rintro e w3 ⟨rfl, rfl⟩
        rw [unhide HE]
        go_wp2
        go_ret
        exact ⟨rfl, hb⟩
end Go.Proofs.YbulkcdzeDoor
