/- What appendUnits wrote, read back: the plain facts on the string; digitsValue's door in the words of this law. -/
import Derived.Test.Qxb6603004aDv
import Derived.Test.Qxb6603004aText
namespace Go.Proofs.Qxb6603004a.Back
open Go.RowKit Go.Proofs.Qxb6603004a.Plain

theorem dv_whole {q : Nat} (h : q ≤ 9223372036854775807) : dvN (whole 19 q) = (q : Int) := by
  unfold dvN
  rw [allD_whole, if_pos rfl, valL_whole 19 q (lt_pow h _ (by omega)), wrap64_of _ (by omega) (by omega)]
theorem dv_decs {u j : Nat} (h : u ≤ 9223372036854775807) : dvN (decs u j) = ((u % 10 ^ j : Nat) : Int) := by
  unfold dvN
  have : u % 10 ^ j ≤ u := Nat.mod_le _ _
  rw [allD_decs, if_pos rfl, valL_decs, wrap64_of _ (by omega) (by omega)]

/-- the door, at numbers as the walk writes them -/
theorem door_val (s : ByteArray) (f t : Int) (F T : Nat) (l : List UInt8) (v : Int) (w : World) (hs : s.size ≤ 100) (hf : f = F) (ht : t = T) (h1 : F ≤ T) (h2 : T ≤ s.size) (HL : Hid ((s.data.toList.drop F).take (T - F) = l))
    (hv : dvN l = v) (ha : allD l = true) :
    Calls Try.prog 10 #[.string s, .int .i64 f, .int .i64 t] w fun e w' => e = .returned (.tuple #[.int .i64 v, .bool true]) ∧ Below w.heap.size w w' := by
  subst hf ht
  refine (Dv.door s F T l w (by unfold maxLen; omega) h1 h2 HL).mono ?_
  rintro e w' ⟨rfl, hb⟩
  exact ⟨by rw [hv, ha], hb⟩

theorem getElem_of {t : ByteArray} {l : List UInt8} (h : t.data.toList = l) (i : Nat) (hi : i < t.size) (c : UInt8) (hc : l[i]? = some c) : t[i] = c := by
  have e : t.data.toList[i]? = some c := by rw [h]; exact hc
  rw [Array.getElem?_toList] at e
  have := Array.getElem?_eq_some_iff.1 e
  exact this.2

theorem pow_small {u q p i P : Nat} (hu : u ≤ 9223372036854775807) (hq : q = u / 10 ^ p) (hq0 : 0 < q) (hi : i < p) (hP : P = 10 ^ i) : P * 10 ≤ 9223372036854775807 := by
  have h1 : 10 ^ p ≤ u := by
    rw [hq] at hq0
    exact (Nat.div_pos_iff.1 hq0).2
  have h2 : 10 ^ (i + 1) ≤ 10 ^ p := Nat.pow_le_pow_right (by omega) (by omega)
  rw [hP, ← Nat.pow_succ]
  exact Nat.le_trans h2 (Nat.le_trans h1 hu)
theorem frac_eq {u q p P : Nat} (hq : q = u / 10 ^ p) (hP : P = 10 ^ p) : (0 : Int) ≤ (q : Int) * (P : Int) ∧ (q : Int) * (P : Int) ≤ u ∧ Hid ((u : Int) - (q : Int) * (P : Int) = ((u % 10 ^ p : Nat) : Int)) := by
  have e := Nat.div_add_mod u (10 ^ p)
  rw [← hq, ← hP, Nat.mul_comm] at e
  have e2 : (q : Int) * (P : Int) = ((q * P : Nat) : Int) := by simp
  have : Hid ((u : Int) - (q : Int) * (P : Int) = ((u % 10 ^ p : Nat) : Int)) := by
    show _ = _
    rw [e2, ← hP]; omega
  exact ⟨by rw [e2]; omega, by rw [e2]; omega, this⟩
theorem frac_low {u q p : Nat} (hq : q = u / 10 ^ p) (h : ¬ 0 < q) : u % 10 ^ p = u := by
  have e := Nat.div_add_mod u (10 ^ p)
  rw [← hq, show q = 0 by omega] at e
  omega

/-- no decimals -/
theorem facts0 {u : Nat} {t : ByteArray} (hu : u ≤ 9223372036854775807) (htl : t.data.toList = text u 0) :
    ∃ m, 1 ≤ m ∧ m ≤ 19 ∧ t.size = m ∧ Hid ((t.data.toList.drop 0).take (m - 0) = whole 19 u) ∧ (m = 1 ∨ (1 < m ∧ ∀ h : 0 < t.size, ((t[0].toNat : Int) != 48) = true)) := by
  have e : text u 0 = whole 19 u := by simp [text, point, decs]
  rw [e] at htl
  have hp : 0 < (whole 19 u).length := whole_pos 18 u
  refine ⟨(whole 19 u).length, hp, whole_len 19 u 19 (lt_pow hu _ (by omega)) (by omega), ?_, ?_, ?_⟩
  · have : t.size = t.data.toList.length := by show t.data.size = _; rw [Array.length_toList]
    rw [this, htl]
  · show _ = _; rw [htl]; simp
  · have hl : (whole 19 u).length = 1 ∨ ∃ c r, whole 19 u = c :: r ∧ c.toNat ≠ 48 := lead_whole 18 u (lt_pow hu _ (by omega))
    rcases hl with h | ⟨c, r, hc, hne⟩
    · exact .inl h
    · by_cases h1 : (whole 19 u).length = 1
      · exact .inl h1
      · refine .inr ⟨by omega, fun h => ?_⟩
        rw [getElem_of htl 0 h c (by rw [hc]; rfl)]
        simp; omega

/-- with decimals -/
theorem facts1 {u p q : Nat} {t : ByteArray} (hu : u ≤ 9223372036854775807) (hq : q = u / 10 ^ p) (hp0 : 0 < p) (htl : t.data.toList = text u p) :
    ∃ m, 1 ≤ m ∧ m ≤ 19 ∧ t.size = m + 1 + p ∧ (∀ h : m < t.size, (t[m].toNat : Int) = 46) ∧ Hid ((t.data.toList.drop 0).take (m - 0) = whole 19 q) ∧ Hid ((t.data.toList.drop (m + 1)).take (m + 1 + p - (m + 1)) = decs u p) ∧
      (m = 1 ∨ (1 < m ∧ ∀ h : 0 < t.size, ((t[0].toNat : Int) != 48) = true)) := by
  subst hq
  have e : text u p = whole 19 (u / 10 ^ p) ++ (46 :: decs u p) := by simp [text, point, show ¬ p = 0 by omega]
  rw [e] at htl
  have hq : u / 10 ^ p ≤ 9223372036854775807 := Nat.le_trans (Nat.div_le_self _ _) hu
  have hp : 0 < (whole 19 (u / 10 ^ p)).length := whole_pos 18 (u / 10 ^ p)
  refine ⟨(whole 19 (u / 10 ^ p)).length, hp, whole_len 19 _ 19 (lt_pow hq _ (by omega)) (by omega), ?_, ?_, ?_, ?_, ?_⟩
  · have : t.size = t.data.toList.length := by show t.data.size = _; rw [Array.length_toList]
    rw [this, htl]
    simp only [List.length_append, List.length_cons, decs_len]
    omega
  · intro h
    rw [getElem_of htl _ h 46 (by rw [List.getElem?_append_right (Nat.le_refl _)]; simp)]
    rfl
  · show _ = _; rw [htl]; simp
  · show _ = _
    rw [htl, List.drop_append, List.drop_eq_nil_of_le (by omega)]
    simp only [Nat.add_sub_cancel_left, List.drop_succ_cons, List.drop_zero, List.nil_append]
    exact List.take_of_length_le (by rw [decs_len]; omega)
  · have hl : (whole 19 (u / 10 ^ p)).length = 1 ∨ ∃ c r, whole 19 (u / 10 ^ p) = c :: r ∧ c.toNat ≠ 48 := lead_whole 18 _ (lt_pow hq _ (by omega))
    rcases hl with h | ⟨c, r, hc, hne⟩
    · exact .inl h
    · by_cases h1 : (whole 19 (u / 10 ^ p)).length = 1
      · exact .inl h1
      · refine .inr ⟨by omega, fun h => ?_⟩
        rw [getElem_of htl 0 h c (by rw [hc]; rfl)]
        simp; omega

end Go.Proofs.Qxb6603004a.Back
