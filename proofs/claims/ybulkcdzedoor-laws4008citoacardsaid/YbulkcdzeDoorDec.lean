/- The plain mathematics of decimal digits: nothing of Go in it. -/
import Derived.RowKit
import Derived.Lib.ItoaNum
namespace Go.Proofs.YbulkcdzeDoor.Dec
open Go.RowKit (wrap64)

def isD (c : UInt8) : Bool := decide (48 ≤ c.toNat) && decide (c.toNat ≤ 57)
/-- The number that the digits write (no bound). -/
def hv (l : List UInt8) : Int := l.foldl (fun n c => n * 10 + ((c.toNat : Int) - 48)) 0
/-- What digits answers. -/
def dg (l : List UInt8) : Int := if l.all isD then wrap64 (hv l) else -1

theorem isD_true {c : UInt8} (h : isD c = true) : 48 ≤ (c.toNat : Int) ∧ (c.toNat : Int) ≤ 57 := by
  simp [isD] at h; omega
theorem isD_false {c : UInt8} (h : isD c = false) : (c.toNat : Int) < 48 ∨ 57 < (c.toNat : Int) := by
  simp [isD] at h; omega
theorem isD_of {c : UInt8} (h : 48 ≤ (c.toNat : Int) ∧ (c.toNat : Int) ≤ 57) : isD c = true := by
  simp [isD]; omega
theorem isD_not {c : UInt8} (h : (c.toNat : Int) < 48 ∨ 57 < (c.toNat : Int)) : isD c = false := by
  simp [isD]; omega

theorem hv_snoc (l : List UInt8) (c : UInt8) : hv (l ++ [c]) = hv l * 10 + ((c.toNat : Int) - 48) := by simp [hv]

theorem foldl_from (l : List UInt8) : ∀ a : Int, l.foldl (fun n c => n * 10 + ((c.toNat : Int) - 48)) a = a * 10 ^ l.length + hv l := by
  unfold hv
  induction l with
  | nil => intro a; simp
  | cons c l ih =>
    intro a
    simp only [List.foldl_cons, List.length_cons]
    rw [ih, ih (0 * 10 + _), Int.pow_succ]
    generalize (10 : Int) ^ l.length = P
    generalize List.foldl (fun n c => n * 10 + ((c.toNat : Int) - 48)) 0 l = F
    generalize ((c.toNat : Int) - 48) = d
    rw [Int.add_mul, Int.zero_mul, Int.zero_add, Int.add_assoc, Int.mul_assoc, Int.mul_comm 10 P]

theorem hv_cons (c : UInt8) (l : List UInt8) : hv (c :: l) = ((c.toNat : Int) - 48) * 10 ^ l.length + hv l := by
  have := foldl_from l ((c.toNat : Int) - 48)
  unfold hv
  simp only [List.foldl_cons]
  rw [show (0 : Int) * 10 + ((c.toNat : Int) - 48) = (c.toNat : Int) - 48 from by omega, this]
  rfl

theorem wrap_step (x d : Int) : wrap64 (wrap64 (wrap64 x * 10) + d) = wrap64 (x * 10 + d) := by
  simp only [wrap64]; omega
theorem wrap_step' (x d : Int) : wrap64 (wrap64 x * 10 + d) = wrap64 (x * 10 + d) := by
  simp only [wrap64]; omega

theorem dec_all (u : Nat) : ((Lib.decDigits u).all isD) = true := by
  induction u using Nat.strongRecOn with
  | ind u ih =>
    rw [Lib.decDigits]
    split
    · rename_i h
      have e : (UInt8.ofNat (48 + u)).toNat = 48 + u := by simp; omega
      simp only [List.all_cons, List.all_nil, Bool.and_true]
      exact isD_of (by omega)
    · rename_i h
      have e : (UInt8.ofNat (48 + u % 10)).toNat = 48 + u % 10 := by simp; omega
      rw [List.all_append, ih (u / 10) (by omega), Bool.true_and]
      simp only [List.all_cons, List.all_nil, Bool.and_true]
      exact isD_of (by omega)

theorem dec_val (u : Nat) : hv (Lib.decDigits u) = u := by
  induction u using Nat.strongRecOn with
  | ind u ih =>
    rw [Lib.decDigits]
    split
    · rename_i h
      have e : (UInt8.ofNat (48 + u)).toNat = 48 + u := by simp; omega
      simp only [hv, List.foldl_cons, List.foldl_nil]
      omega
    · rename_i h
      have e : (UInt8.ofNat (48 + u % 10)).toNat = 48 + u % 10 := by simp; omega
      rw [hv_snoc, ih (u / 10) (by omega)]
      omega

theorem zeros_val (z : Nat) (l : List UInt8) : hv (List.replicate z 48 ++ l) = hv l := by
  induction z with
  | zero => rfl
  | succ z ih =>
    rw [List.replicate_succ, List.cons_append, hv_cons, ih]
    have e : (48 : UInt8).toNat = 48 := rfl
    rw [e]; simp

theorem zeros_all (z : Nat) (l : List UInt8) : (List.replicate z 48 ++ l).all isD = l.all isD := by
  induction z with
  | zero => rfl
  | succ z ih =>
    rw [List.replicate_succ, List.cons_append, List.all_cons, ih, show isD 48 = true from rfl, Bool.true_and]

theorem itoa_eq (n : Int) (h0 : 0 ≤ n) : Lib.itoa n = Lib.decDigits n.toNat := by
  unfold Lib.itoa; rw [if_neg (by omega)]

/-- The plain law: the numeral, with leading zeros, reads back. -/
theorem dg_itoa (n : Int) (h0 : 0 ≤ n) (h1 : n ≤ 9223372036854775807) (z : Nat) : dg (List.replicate z 48 ++ Lib.itoa n) = n := by
  unfold dg
  rw [itoa_eq n h0, zeros_all, dec_all, if_pos rfl, zeros_val, dec_val]
  simp only [wrap64]; omega
end Go.Proofs.YbulkcdzeDoor.Dec
