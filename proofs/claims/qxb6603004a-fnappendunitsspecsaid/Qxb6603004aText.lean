/- The decimal text that appendUnits writes: plain lists of bytes. -/
import Derived.Test.Qxb6603004aPlain
namespace Go.Proofs.Qxb6603004a.Plain
open Go.RowKit

/-- a digit's byte -/
def dg (d : Nat) : UInt8 := UInt8.ofNat (48 + d)
/-- the last j digits of u -/
def decs (u : Nat) : Nat → List UInt8
  | 0 => []
  | j + 1 => dg (u / 10 ^ j % 10) :: decs u j
/-- the digits of q, by fuel -/
def whole : Nat → Nat → List UInt8
  | 0, _ => []
  | n + 1, q => (if q / 10 = 0 then [] else whole n (q / 10)) ++ [dg (q % 10)]
def point (p : Nat) : List UInt8 := if p = 0 then [] else [46]
/-- what appendUnits appends -/
def text (u p : Nat) : List UInt8 := whole 19 (u / 10 ^ p) ++ (point p ++ decs u p)

theorem dg_toNat {d : Nat} (h : d < 10) : (dg d).toNat = 48 + d := by
  unfold dg; rw [UInt8.toNat_ofNat']; omega
theorem dg_toInt {d : Nat} (h : d < 10) : ((dg d).toNat : Int) = 48 + d := by rw [dg_toNat h]; omega
theorem dig_dg {d : Nat} (h : d < 10) : dig (dg d) = d := by unfold dig; rw [dg_toInt h]; omega
theorem digB_dg {d : Nat} (h : d < 10) : digB (dg d) = true := by
  unfold digB; rw [dg_toInt h]; simp; omega
theorem decs_len (u j : Nat) : (decs u j).length = j := by
  induction j with
  | zero => rfl
  | succ j ih => simp [decs, ih]
theorem whole_len (n : Nat) : ∀ (q k : Nat), q < 10 ^ k → 1 ≤ k → (whole n q).length ≤ k := by
  induction n with
  | zero => intro q k _ _; simp [whole]
  | succ n ih =>
    intro q k h hk
    simp only [whole, List.length_append, List.length_cons, List.length_nil]
    by_cases e : q / 10 = 0
    · simp [e]; omega
    · rw [if_neg e]
      obtain ⟨k, rfl⟩ : ∃ j, k = j + 1 := ⟨k - 1, by omega⟩
      have h2 : q / 10 < 10 ^ k := by rw [Nat.pow_succ] at h; omega
      by_cases hk0 : k = 0
      · subst hk0; simp at h2; omega
      · have := ih (q / 10) k h2 (by omega); omega
theorem whole_pos (n q : Nat) : 0 < (whole (n + 1) q).length := by simp [whole]
theorem point_len (p : Nat) : (point p).length ≤ 1 := by unfold point; split <;> simp
theorem div_pow_lt {u p k : Nat} (h : u < 10 ^ (k + p)) : u / 10 ^ p < 10 ^ k := by
  rw [Nat.div_lt_iff_lt_mul (Nat.pow_pos (by omega)), ← Nat.pow_add]; exact h
theorem lt_pow {u : Nat} (h : u ≤ 9223372036854775807) (n : Nat) (hn : 19 ≤ n) : u < 10 ^ n :=
  Nat.lt_of_lt_of_le (show u < 10 ^ 19 by omega) (Nat.pow_le_pow_right (by omega) hn)
theorem text_len {u p : Nat} (hu : u ≤ 9223372036854775807) (hp : p ≤ 38) : (text u p).length ≤ 40 := by
  unfold text
  simp only [List.length_append, decs_len]
  by_cases h : p ≤ 18
  · have hw := whole_len 19 (u / 10 ^ p) (19 - p) (div_pow_lt (lt_pow hu _ (by omega))) (by omega)
    have := point_len p
    omega
  · have hw := whole_len 19 (u / 10 ^ p) 1 (div_pow_lt (lt_pow hu _ (by omega))) (by omega)
    have := point_len p
    omega
theorem text_pos (u p : Nat) : 0 < (text u p).length := by
  unfold text; have h : 0 < (whole 19 (u / 10 ^ p)).length := whole_pos 18 (u / 10 ^ p); simp only [List.length_append]; omega

theorem allD_decs (u j : Nat) : allD (decs u j) = true := by
  induction j with
  | zero => rfl
  | succ j ih => rw [decs, allD_cons, ih, digB_dg (by omega)]; rfl
theorem valL_decs (u j : Nat) : valL (decs u j) = ((u % 10 ^ j : Nat) : Int) := by
  induction j with
  | zero => simp [decs, valL, Nat.mod_one]
  | succ j ih =>
    rw [decs, valL_cons, ih, decs_len, dig_dg (by omega)]
    have e : u % 10 ^ (j + 1) = u % 10 ^ j + 10 ^ j * (u / 10 ^ j % 10) := by rw [Nat.pow_succ, Nat.mod_mul]
    rw [e]
    push_cast
    rw [Int.mul_comm, Int.add_comm]
theorem allD_whole (n : Nat) : ∀ q, allD (whole n q) = true := by
  induction n with
  | zero => intro q; rfl
  | succ n ih =>
    intro q
    rw [whole, allD_snoc, digB_dg (by omega)]
    split
    · rfl
    · rw [ih]; rfl
theorem valL_whole (n : Nat) : ∀ q, q < 10 ^ n → valL (whole n q) = (q : Int) := by
  induction n with
  | zero => intro q h; simp at h; subst h; rfl
  | succ n ih =>
    intro q h
    rw [whole, valL_snoc, dig_dg (by omega)]
    have h2 : q / 10 < 10 ^ n := by rw [Nat.pow_succ] at h; omega
    split
    · simp [valL]; omega
    · rw [ih _ h2]; omega
/-- no leading zero but in "0" -/
theorem lead_whole (n : Nat) : ∀ q, q < 10 ^ (n + 1) → (whole (n + 1) q).length = 1 ∨ ∃ c r, whole (n + 1) q = c :: r ∧ c.toNat ≠ 48 := by
  induction n with
  | zero =>
    intro q h
    left
    have : q / 10 = 0 := by simp at h; omega
    simp [whole, this]
  | succ n ih =>
    intro q h
    by_cases e : q / 10 = 0
    · left; simp [whole, e]
    · right
      have h2 : q / 10 < 10 ^ (n + 1) := by rw [Nat.pow_succ] at h; omega
      have e2 : whole (n + 1 + 1) q = whole (n + 1) (q / 10) ++ [dg (q % 10)] := by
        rw [whole, if_neg e]
      rw [e2]
      rcases ih (q / 10) h2 with h1 | ⟨c, r, hc, hne⟩
      · have e3 : q / 10 / 10 = 0 := by
          by_cases e4 : q / 10 / 10 = 0
          · exact e4
          · exfalso
            rw [whole, if_neg e4] at h1
            simp at h1
            have h3 : n ≠ 0 := by
              intro hn; subst hn; simp at h2; omega
            obtain ⟨m, rfl⟩ : ∃ m, n = m + 1 := ⟨n - 1, by omega⟩
            have := whole_pos m (q / 10 / 10)
            rw [h1] at this; simp at this
        refine ⟨dg (q / 10 % 10), [dg (q % 10)], ?_, ?_⟩
        · rw [whole, if_pos e3]; rfl
        · rw [dg_toNat (by omega)]; omega
      · exact ⟨c, r ++ [dg (q % 10)], by rw [hc]; rfl, hne⟩

end Go.Proofs.Qxb6603004a.Plain
