/- The plain mathematics of decimal digits: nothing of Go in it. -/
import Derived.RowKit
namespace Go.Proofs.Ybulkcdze.Dec
open Go.RowKit (wrap64)

def isD (c : UInt8) : Bool := decide (48 ≤ c.toNat) && decide (c.toNat ≤ 57)
/-- The number that the digits write (no bound). -/
def hv (l : List UInt8) : Int := l.foldl (fun n c => n * 10 + ((c.toNat : Int) - 48)) 0
/-- What digits answers. -/
def dg (l : List UInt8) : Int := if l.all isD then wrap64 (hv l) else -1
/-- Reduced as a uint64. -/
def u64 (x : Int) : Int := x % 18446744073709551616

theorem isD_true {c : UInt8} (h : isD c = true) : 48 ≤ (c.toNat : Int) ∧ (c.toNat : Int) ≤ 57 := by
  simp [isD] at h; omega
theorem isD_false {c : UInt8} (h : isD c = false) : (c.toNat : Int) < 48 ∨ 57 < (c.toNat : Int) := by
  simp [isD] at h; omega
theorem isD_of {c : UInt8} (h : 48 ≤ (c.toNat : Int) ∧ (c.toNat : Int) ≤ 57) : isD c = true := by
  simp [isD]; omega
theorem isD_not {c : UInt8} (h : (c.toNat : Int) < 48 ∨ 57 < (c.toNat : Int)) : isD c = false := by
  simp [isD]; omega

theorem hv_snoc (l : List UInt8) (c : UInt8) : hv (l ++ [c]) = hv l * 10 + ((c.toNat : Int) - 48) := by simp [hv]

theorem foldl_from (l : List UInt8) : ∀ a : Int, l.foldl (fun n c => n * 10 + ((c.toNat : Int) - 48)) a = a * 10 ^ l.length + hv l := by
  unfold hv
  induction l with
  | nil => intro a; simp
  | cons c l ih =>
    intro a
    simp only [List.foldl_cons, List.length_cons]
    rw [ih, ih (0 * 10 + _), Int.pow_succ]
    generalize (10 : Int) ^ l.length = P
    generalize List.foldl (fun n c => n * 10 + ((c.toNat : Int) - 48)) 0 l = F
    generalize ((c.toNat : Int) - 48) = d
    rw [Int.add_mul, Int.zero_mul, Int.zero_add, Int.add_assoc, Int.mul_assoc, Int.mul_comm 10 P]

theorem hv_cons (c : UInt8) (l : List UInt8) : hv (c :: l) = ((c.toNat : Int) - 48) * 10 ^ l.length + hv l := by
  have := foldl_from l ((c.toNat : Int) - 48)
  unfold hv
  simp only [List.foldl_cons]
  rw [show (0 : Int) * 10 + ((c.toNat : Int) - 48) = (c.toNat : Int) - 48 from by omega, this]
  rfl

theorem wrap_step (x d : Int) : wrap64 (wrap64 (wrap64 x * 10) + d) = wrap64 (x * 10 + d) := by
  simp only [wrap64]; omega
theorem wrap_step' (x d : Int) : wrap64 (wrap64 x * 10 + d) = wrap64 (x * 10 + d) := by
  simp only [wrap64]; omega
theorem wrap_u64 (x : Int) : wrap64 (u64 x) = wrap64 x := by
  simp only [wrap64, u64]; omega

theorem u64_mul (x y : Int) : u64 (x * u64 y) = u64 (x * y) := by
  unfold u64; rw [Int.mul_emod, Int.emod_emod_of_dvd _ (Int.dvd_refl _), ← Int.mul_emod]
theorem u64_add (x y : Int) : u64 (u64 x + u64 y) = u64 (x + y) := by
  unfold u64; rw [← Int.add_emod]
theorem u64_mul10 (y : Int) : u64 (u64 y * 10) = u64 (y * 10) := by
  unfold u64; rw [Int.mul_emod, Int.emod_emod_of_dvd _ (Int.dvd_refl _), ← Int.mul_emod]

/-- One step of the sum from the right. -/
theorem sum_step (c : UInt8) (l : List UInt8) : u64 (u64 (hv l) + u64 (((c.toNat : Int) - 48) * u64 (10 ^ l.length))) = u64 (hv (c :: l)) := by
  rw [u64_mul, u64_add, hv_cons, Int.add_comm]
theorem pow_step (n : Nat) : u64 (u64 (10 ^ n) * 10) = u64 (10 ^ (n + 1)) := by rw [u64_mul10, Int.pow_succ]
end Go.Proofs.Ybulkcdze.Dec
