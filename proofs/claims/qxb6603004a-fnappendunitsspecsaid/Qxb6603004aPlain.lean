/- The plain laws of seat b6603004a: no Go in sight but the kit's 'wrap64'. -/
import Derived.RowKit
namespace Go.Proofs.Qxb6603004a.Plain
open Go.RowKit

/-- is the byte an ASCII digit? -/
def digB (c : UInt8) : Bool := decide (48 ≤ (c.toNat : Int)) && decide ((c.toNat : Int) ≤ 57)
/-- the digit's worth -/
def dig (c : UInt8) : Int := (c.toNat : Int) - 48
/-- the number that the bytes write, read from the left -/
def valL (l : List UInt8) : Int := l.foldl (fun n c => n * 10 + dig c) 0
def allD (l : List UInt8) : Bool := l.all digB
/-- what digitsValue hands back -/
def dvN (l : List UInt8) : Int := if allD l then wrap64 (valL l) else 0

theorem valL_snoc (l : List UInt8) (c : UInt8) : valL (l ++ [c]) = valL l * 10 + dig c := by simp [valL]
theorem allD_snoc (l : List UInt8) (c : UInt8) : allD (l ++ [c]) = (allD l && digB c) := by simp [allD]
theorem allD_cons (l : List UInt8) (c : UInt8) : allD (c :: l) = (digB c && allD l) := by simp [allD]
theorem allD_append (a b : List UInt8) : allD (a ++ b) = (allD a && allD b) := by simp [allD]

theorem foldl_shift (l : List UInt8) (n : Int) : l.foldl (fun n c => n * 10 + dig c) n = n * 10 ^ l.length + valL l := by
  induction l generalizing n with
  | nil => simp [valL]
  | cons c r ih =>
    have h1 := ih (n * 10 + dig c)
    have h2 := ih (0 * 10 + dig c)
    simp only [List.foldl_cons, List.length_cons, valL] at h1 h2 ⊢
    rw [h1, h2, Int.pow_succ, Int.add_mul, Int.mul_assoc, Int.mul_comm 10 (10 ^ r.length), Int.zero_mul, Int.zero_add]
    omega
theorem valL_cons (l : List UInt8) (c : UInt8) : valL (c :: l) = dig c * 10 ^ l.length + valL l := by
  have := foldl_shift l (0 * 10 + dig c)
  simp only [valL, List.foldl_cons] at this ⊢
  rw [this]; simp

/-- what the law's loop sums, from the right -/
def sumR : List UInt8 → Int
  | [] => 0
  | c :: r => if digB c then wrap64 (sumR r + wrap64 (dig c * wrap64 (10 ^ r.length))) else sumR r

theorem wrap64_add_l (a b : Int) : wrap64 (wrap64 a + b) = wrap64 (a + b) := by unfold wrap64; omega
theorem wrap64_add_r (a b : Int) : wrap64 (a + wrap64 b) = wrap64 (a + b) := by unfold wrap64; omega
theorem wrap64_idem (a : Int) : wrap64 (wrap64 a) = wrap64 a := by unfold wrap64; omega
theorem wrap64_emod (a b : Int) (h : a % 18446744073709551616 = b % 18446744073709551616) : wrap64 a = wrap64 b := by unfold wrap64; omega
theorem wrap64_mod (a : Int) : wrap64 a % 18446744073709551616 = a % 18446744073709551616 := by unfold wrap64; omega
theorem wrap64_mul_r (a b : Int) : wrap64 (a * wrap64 b) = wrap64 (a * b) := by
  apply wrap64_emod
  rw [Int.mul_emod, wrap64_mod, ← Int.mul_emod]
theorem wrap64_mul_l (a b : Int) : wrap64 (wrap64 a * b) = wrap64 (a * b) := by
  rw [Int.mul_comm, wrap64_mul_r, Int.mul_comm]
theorem wrap64_of (a : Int) (h1 : -9223372036854775808 ≤ a) (h2 : a ≤ 9223372036854775807) : wrap64 a = a := by unfold wrap64; omega

theorem sumR_all (l : List UInt8) (h : allD l = true) : sumR l = wrap64 (valL l) := by
  induction l with
  | nil => rfl
  | cons c r ih =>
    rw [allD_cons] at h
    simp only [Bool.and_eq_true] at h
    simp only [sumR, h.1, if_true, ih h.2, valL_cons]
    rw [wrap64_add_l, wrap64_add_r, Int.add_comm, ← wrap64_add_l, wrap64_mul_r, wrap64_add_l]

/-- one step of digitsValue's loop -/
theorem step_fwd (l : List UInt8) (c : UInt8) : wrap64 (wrap64 (wrap64 (valL l) * 10) + dig c) = wrap64 (valL (l ++ [c])) := by
  rw [valL_snoc, wrap64_add_l, ← wrap64_add_l, wrap64_mul_l, wrap64_add_l]
theorem step_pow (n : Nat) : wrap64 (wrap64 (10 ^ n) * 10) = wrap64 (10 ^ (n + 1)) := by
  rw [wrap64_mul_l, Int.pow_succ]

theorem dvN_eq_sum (l : List UInt8) (h : allD l = true) : dvN l = sumR l := by simp [dvN, h, sumR_all l h]
theorem dvN_none (l : List UInt8) (h : allD l = false) : dvN l = 0 := by simp [dvN, h]

theorem take_snoc (l : List UInt8) (k : Nat) (h : k < l.length) : l.take (k + 1) = l.take k ++ [l[k]] := by
  rw [List.take_succ_eq_append_getElem h]

end Go.Proofs.Qxb6603004a.Plain
