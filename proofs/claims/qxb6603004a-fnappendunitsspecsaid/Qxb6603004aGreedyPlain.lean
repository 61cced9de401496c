/- Plain: the digits from the most significant down; padding with zeros. -/
import Derived.Test.Qxb6603004aText
namespace Go.Proofs.Qxb6603004a.Plain

theorem whole_fuel (n : Nat) : ∀ q, q < 10 ^ (n + 1) → whole (n + 2) q = whole (n + 1) q := by
  induction n with
  | zero =>
    intro q h
    have : q / 10 = 0 := by simp at h; omega
    simp [whole, this]
  | succ n ih =>
    intro q h
    have h2 : q / 10 < 10 ^ (n + 1) := by rw [Nat.pow_succ] at h; omega
    rw [whole]
    conv => rhs; rw [whole]
    rw [ih _ h2]

/-- what greedyDigits has written when the powers from 10^k on are done -/
def gd (u k : Nat) : List UInt8 := if u / 10 ^ k = 0 ∧ k ≠ 0 then [] else whole 19 (u / 10 ^ k)
/-- the power that is next -/
def pw : Nat → Nat
  | 0 => 0
  | k + 1 => 10 ^ k

theorem div_succ (u k : Nat) : u / 10 ^ (k + 1) = u / 10 ^ k / 10 := by rw [Nat.div_div_eq_div_mul, Nat.pow_succ]
theorem gd_yes {u k c : Nat} (hu : u ≤ 9223372036854775807) (hc : c = u / 10 ^ k % 10) (h : u / 10 ^ k ≠ 0 ∨ k = 0) : gd u k = gd u (k + 1) ++ [dg c] := by
  unfold gd
  rw [if_neg (by omega), div_succ, hc]
  have hq : u / 10 ^ k ≤ 9223372036854775807 := Nat.le_trans (Nat.div_le_self _ _) hu
  generalize u / 10 ^ k = q at hq h ⊢
  rw [show (19 : Nat) = 18 + 1 from rfl, whole]
  have e : whole 19 (q / 10) = whole 18 (q / 10) := whole_fuel 17 (q / 10) (by
    have : q < 10 ^ (18 + 1) := by omega
    rw [Nat.pow_succ] at this; omega)
  by_cases h0 : q / 10 = 0
  · rw [if_pos h0, if_pos ⟨h0, by omega⟩]
  · rw [if_neg h0, if_neg (by omega), e]
theorem gd_no {u k : Nat} (h : u / 10 ^ k = 0) (hk : k ≠ 0) : gd u k = gd u (k + 1) := by
  unfold gd
  rw [if_pos ⟨h, hk⟩, if_pos ⟨by rw [div_succ, h], by omega⟩]
theorem gd_start {u : Nat} (hu : u ≤ 9223372036854775807) : gd u 19 = [] := by
  unfold gd
  rw [if_pos ⟨Nat.div_eq_of_lt (lt_pow hu _ (by omega)), by omega⟩]
theorem gd_zero (u : Nat) : gd u 0 = whole 19 u := by simp [gd]
theorem gd_len {u k : Nat} (hu : u ≤ 9223372036854775807) : (gd u k).length ≤ 19 := by
  unfold gd
  split
  · simp
  · exact whole_len 19 _ 19 (lt_pow (Nat.le_trans (Nat.div_le_self _ _) hu) _ (by omega)) (by omega)

/-- one power: how often it went in, and what is left -/
theorem greedy_step {u k c : Nat} (h1 : c * 10 ^ k ≤ u % 10 ^ (k + 1)) (h2 : u % 10 ^ (k + 1) - c * 10 ^ k < 10 ^ k) : c = u / 10 ^ k % 10 ∧ u % 10 ^ (k + 1) - c * 10 ^ k = u % 10 ^ k := by
  have e : u % 10 ^ (k + 1) = u % 10 ^ k + 10 ^ k * (u / 10 ^ k % 10) := by rw [Nat.pow_succ, Nat.mod_mul]
  have hp : 0 < 10 ^ k := Nat.pow_pos (by omega)
  have hm : u % 10 ^ k < 10 ^ k := Nat.mod_lt _ hp
  rw [e] at h1 h2 ⊢
  generalize u / 10 ^ k % 10 = d at *
  generalize u % 10 ^ k = r at *
  generalize 10 ^ k = P at *
  have e2 : P * d = d * P := Nat.mul_comm _ _
  rw [e2] at h1 h2 ⊢
  have hcd : c = d := by
    rcases Nat.lt_trichotomy c d with h | h | h
    · exfalso
      have : (c + 1) * P ≤ d * P := Nat.mul_le_mul_right _ h
      rw [Nat.succ_mul] at this
      omega
    · exact h
    · exfalso
      have : (d + 1) * P ≤ c * P := Nat.mul_le_mul_right _ h
      rw [Nat.succ_mul] at this
      omega
  subst hcd
  exact ⟨rfl, by omega⟩

/-! ### padding -/
theorem decs_zero (u j : Nat) (h : u / 10 ^ j = 0) (m : Nat) : decs u (j + m) = List.replicate m (dg 0) ++ decs u j := by
  induction m with
  | zero => simp
  | succ m ih =>
    have : u / 10 ^ (j + m) = 0 := by
      rw [Nat.pow_add, ← Nat.div_div_eq_div_mul, h]; simp
    rw [show j + (m + 1) = (j + m) + 1 by omega, decs, ih, this, List.replicate_succ]
    rfl
/-- the digits of u, split at place p -/
theorem whole_split (p : Nat) : ∀ u, u / 10 ^ p ≠ 0 → u ≤ 9223372036854775807 → whole 19 u = whole 19 (u / 10 ^ p) ++ decs u p := by
  induction p with
  | zero => intro u _ _; simp [decs]
  | succ p ih =>
    intro u h hu
    have h1 : u / 10 ^ p ≠ 0 := by
      intro e; apply h; rw [div_succ, e]
    rw [ih u h1 hu]
    have e : gd u p = gd u (p + 1) ++ [dg (u / 10 ^ p % 10)] := gd_yes hu rfl (.inl h1)
    unfold gd at e
    rw [if_neg (fun x => h1 x.1), if_neg (fun x => h x.1)] at e
    rw [e, decs]
    simp
/-- a number of few digits -/
theorem whole_low (n : Nat) : ∀ u, u < 10 ^ (n + 1) → ∃ d, 1 ≤ d ∧ whole (n + 1) u = decs u d ∧ u / 10 ^ d = 0 := by
  induction n with
  | zero =>
    intro u h
    have h10 : u / 10 = 0 := by simp at h; omega
    exact ⟨1, Nat.le_refl _, by simp [whole, decs, h10], by simpa using h10⟩
  | succ n ih =>
    intro u h
    by_cases h10 : u / 10 = 0
    · exact ⟨1, Nat.le_refl _, by simp [whole, decs, h10], by simpa using h10⟩
    · have h2 : u / 10 < 10 ^ (n + 1) := by rw [Nat.pow_succ] at h; omega
      obtain ⟨d, hd, e, hz⟩ := ih (u / 10) h2
      refine ⟨d + 1, by omega, ?_, ?_⟩
      · rw [whole, if_neg h10, e]
        clear e hz hd ih h h2 h10
        induction d with
        | zero => simp [decs]
        | succ d ihd =>
          rw [decs, List.cons_append, ihd, decs]
          congr 1
          rw [Nat.div_div_eq_div_mul, Nat.pow_succ, Nat.mul_comm]
      · rw [Nat.pow_succ, Nat.mul_comm, ← Nat.div_div_eq_div_mul]; exact hz

/-- THE PADDED DIGITS: zeros up to p + 1 digits, then the digits: cut at p from the end they are the whole part and the decimals. -/
theorem padded {u p : Nat} (hu : u ≤ 9223372036854775807) : List.replicate (p + 1 - (whole 19 u).length) (dg 0) ++ whole 19 u = whole 19 (u / 10 ^ p) ++ decs u p := by
  by_cases h : u / 10 ^ p = 0
  · obtain ⟨d, hd, e, hz⟩ := whole_low 18 u (lt_pow hu _ (by omega))
    rw [h, e]
    have el : (decs u d).length = d := decs_len u d
    rw [el]
    have h0 : whole 19 0 = [dg 0] := by simp [whole]
    rw [h0]
    by_cases hdp : d ≤ p
    · obtain ⟨m, rfl⟩ : ∃ m, p = d + m := ⟨p - d, by omega⟩
      rw [show d + m + 1 - d = m + 1 by omega, decs_zero u d hz m, List.replicate_succ]
      simp
    · -- then d = p + 1 digits at most
      have hdp1 : d = p + 1 := by
        have hlen := whole_len 19 u (p + 1) (by
          have : u < 10 ^ p := by
            rcases Nat.lt_or_ge u (10 ^ p) with h1 | h1
            · exact h1
            · exact absurd h (Nat.ne_of_gt (Nat.div_pos h1 (Nat.pow_pos (by omega))))
          exact Nat.lt_of_lt_of_le this (Nat.pow_le_pow_right (by omega) (by omega))) (by omega)
        have e' : whole 19 u = decs u d := e
        rw [e', el] at hlen
        omega
      subst hdp1
      rw [Nat.sub_self]
      simp only [List.replicate_zero, List.nil_append]
      rw [decs, h]
      rfl
  · have e := whole_split p u h hu
    have hl : (whole 19 u).length = (whole 19 (u / 10 ^ p)).length + p := by rw [e, List.length_append, decs_len]
    have hp : 0 < (whole 19 (u / 10 ^ p)).length := whole_pos 18 _
    rw [show p + 1 - (whole 19 u).length = 0 by omega]
    simpa using e

end Go.Proofs.Qxb6603004a.Plain
