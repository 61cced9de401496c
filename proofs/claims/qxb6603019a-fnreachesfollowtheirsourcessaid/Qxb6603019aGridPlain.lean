/- Plain laws: which node holds which message after each span; words of bits; counts. -/
import Derived.Test.Qxb6603019aLab
namespace Go.Proofs.Qxb6603019a.GridPlain

/-- node i holds, after the first s spans, a message that began at v -/
def R (n : Nat) (cs : Nat → Nat → Nat) : Nat → Nat → Nat → Prop
  | 0, i, v => i = v
  | s + 1, i, v => ∃ j, j < n ∧ cs s j = cs s i ∧ R n cs s j v

open Classical in
noncomputable def cnt (p : Nat → Prop) : Nat → Nat
  | 0 => 0
  | i + 1 => cnt p i + if p i then 1 else 0
theorem cnt_le (p : Nat → Prop) : ∀ n, cnt p n ≤ n
  | 0 => Nat.le_refl _
  | n + 1 => by have := cnt_le p n; unfold cnt; split <;> omega
theorem cnt_yes {p : Nat → Prop} {i : Nat} (h : p i) : cnt p (i + 1) = cnt p i + 1 := by unfold cnt; rw [if_pos h]; cases i <;> rfl
open Classical in
theorem cnt_no {p : Nat → Prop} {i : Nat} (h : ¬ p i) : cnt p (i + 1) = cnt p i := by
  show cnt p i + (if p i then 1 else 0) = _
  rw [if_neg h]; rfl

/-- bit k of row i -/
def bit (wd : Nat) (H : Nat → Nat) (i k : Nat) : Prop := (H (i * wd + k / 64)).testBit (k % 64) = true
def Small (H : Nat → Nat) : Prop := ∀ j, H j < 18446744073709551616
theorem Small.set {H : Nat → Nat} (h : Small H) (i x : Nat) (hx : x < 18446744073709551616) : Small (fun j => if j = i then x else H j) := by
  intro j; show (if j = i then x else H j) < _; split
  · exact hx
  · exact h j
theorem or_small {a b : Nat} (ha : a < 18446744073709551616) (hb : b < 18446744073709551616) : a ||| b < 18446744073709551616 :=
  Nat.or_lt_two_pow (n := 64) ha hb
theorem pow_small {k : Nat} : 2 ^ (k % 64) < 18446744073709551616 :=
  Nat.pow_lt_pow_right (n := 64) (by omega) (by omega)

theorem cell_inj {wd c x c' x' : Nat} (hx : x < wd) (hx' : x' < wd) (h : c * wd + x = c' * wd + x') : c = c' ∧ x = x' := by
  have h1 : (c * wd + x) / wd = c := by rw [Nat.mul_comm, Nat.mul_add_div (by omega), Nat.div_eq_of_lt hx]; omega
  have h2 : (c' * wd + x') / wd = c' := by rw [Nat.mul_comm, Nat.mul_add_div (by omega), Nat.div_eq_of_lt hx']; omega
  have : c = c' := by rw [← h1, ← h2, h]
  subst this
  exact ⟨rfl, by omega⟩
theorem cell_lt {n wd c x : Nat} (hc : c < n) (hx : x < wd) : c * wd + x < n * wd := by
  have : (c + 1) * wd ≤ n * wd := Nat.mul_le_mul_right _ hc
  rw [Nat.add_mul] at this; omega

/-- the first k0 messages lie at their sources -/
def Seed (n m wd : Nat) (fr : Nat → Nat) (k0 : Nat) (H : Nat → Nat) : Prop := ∀ i k, i < n → k < m → (bit wd H i k ↔ (k < k0 ∧ fr k = i))
theorem Seed.start (n m wd : Nat) (fr : Nat → Nat) : Seed n m wd fr 0 (fun _ => 0) := by
  intro i k _ _
  unfold bit
  simp
theorem Seed.step {n m wd : Nat} {fr : Nat → Nat} {k0 : Nat} {H : Nat → Nat} (h : Seed n m wd fr k0 H) (hm : m ≤ wd * 64) (hk : k0 < m) :
    Seed n m wd fr (k0 + 1) (fun j => if j = fr k0 * wd + k0 / 64 then H (fr k0 * wd + k0 / 64) ||| 2 ^ (k0 % 64) else H j) := by
  intro i k hi hkm
  have h0 := h i k hi hkm
  unfold bit at h0 ⊢
  show (if i * wd + k / 64 = fr k0 * wd + k0 / 64 then _ else _ : Nat).testBit (k % 64) = true ↔ _
  by_cases e : i * wd + k / 64 = fr k0 * wd + k0 / 64
  · obtain ⟨e1, e2⟩ := cell_inj (by omega) (by omega) e
    rw [if_pos e, ← e, Nat.testBit_or, Bool.or_eq_true, h0, Nat.testBit_two_pow]
    simp only [decide_eq_true_eq]
    constructor
    · rintro (⟨a, b⟩ | a)
      · exact ⟨by omega, b⟩
      · have : k = k0 := by omega
        subst this
        exact ⟨by omega, e1.symm⟩
    · rintro ⟨a, b⟩
      by_cases c : k < k0
      · exact .inl ⟨c, b⟩
      · right; have : k = k0 := by omega
        rw [this]
  · rw [if_neg e, h0]
    constructor
    · rintro ⟨a, b⟩; exact ⟨by omega, b⟩
    · rintro ⟨a, b⟩
      refine ⟨?_, b⟩
      have : k ≠ k0 := by rintro rfl; exact e (by rw [b])
      omega

/-- the rows are gathered: the first i0 rows, and of the next the first x0 words -/
def Gath (n wd : Nat) (comp : Nat → Nat) (H : Nat → Nat) (i0 x0 : Nat) (N : Nat → Nat) : Prop :=
  ∀ c x b, c < n → x < wd → ((N (c * wd + x)).testBit b = true ↔ ∃ i, comp i = c ∧ (i < i0 ∨ (i = i0 ∧ x < x0)) ∧ (H (i * wd + x)).testBit b = true)
theorem Gath.start (n wd : Nat) (comp H : Nat → Nat) : Gath n wd comp H 0 0 (fun _ => 0) := by
  intro c x b _ _
  simp
theorem Gath.row {n wd : Nat} {comp H : Nat → Nat} {i0 : Nat} {N : Nat → Nat} (h : Gath n wd comp H i0 wd N) : Gath n wd comp H (i0 + 1) 0 N := by
  intro c x b hc hx
  rw [h c x b hc hx]
  constructor
  · rintro ⟨i, e, a, t⟩; exact ⟨i, e, by omega, t⟩
  · rintro ⟨i, e, a, t⟩; exact ⟨i, e, by omega, t⟩
theorem Gath.step {n wd : Nat} {comp H : Nat → Nat} {i0 x0 : Nat} {N : Nat → Nat} (h : Gath n wd comp H i0 x0 N) (hx0 : x0 < wd) :
    Gath n wd comp H i0 (x0 + 1) (fun j => if j = comp i0 * wd + x0 then N (comp i0 * wd + x0) ||| H (i0 * wd + x0) else N j) := by
  intro c x b hc hx
  have h0 := h c x b hc hx
  show (if c * wd + x = comp i0 * wd + x0 then _ else _ : Nat).testBit b = true ↔ _
  by_cases e : c * wd + x = comp i0 * wd + x0
  · obtain ⟨e1, e2⟩ := cell_inj hx hx0 e
    rw [if_pos e, ← e, Nat.testBit_or, Bool.or_eq_true, h0]
    constructor
    · rintro (⟨i, e, a, t⟩ | t)
      · exact ⟨i, e, by omega, t⟩
      · exact ⟨i0, e1.symm, .inr ⟨rfl, by omega⟩, by rw [e2]; exact t⟩
    · rintro ⟨i, e, a, t⟩
      by_cases q : i < i0 ∨ (i = i0 ∧ x < x0)
      · exact .inl ⟨i, e, q, t⟩
      · right
        have : i = i0 := by omega
        rw [this, e2] at t
        exact t
  · rw [if_neg e, h0]
    constructor
    · rintro ⟨i, e, a, t⟩; exact ⟨i, e, by omega, t⟩
    · rintro ⟨i, e', a, t⟩
      refine ⟨i, e', ?_, t⟩
      rcases a with a | ⟨a, a'⟩
      · exact .inl a
      · right
        refine ⟨a, ?_⟩
        have : x ≠ x0 := by rintro rfl; subst a; exact e (by rw [e'])
        omega

/-- the first i0 rows are copied back -/
def Back (wd : Nat) (comp N : Nat → Nat) (i0 : Nat) (H : Nat → Nat) : Prop := ∀ i x, i < i0 → x < wd → H (i * wd + x) = N (comp i * wd + x)
theorem Back.start (wd : Nat) (comp N H : Nat → Nat) : Back wd comp N 0 H := fun i x h _ => by omega
theorem Back.step {wd : Nat} {comp N H H2 : Nat → Nat} {i0 : Nat} (h : Back wd comp N i0 H) (h1 : ∀ x, x < wd → H2 (i0 * wd + x) = N (comp i0 * wd + x)) (h2 : ∀ j, j < i0 * wd → H2 j = H j) : Back wd comp N (i0 + 1) H2 := by
  intro i x hi hx
  by_cases e : i = i0
  · subst e; exact h1 x hx
  · rw [h2 _ (cell_lt (by omega) hx)]; exact h i x (by omega) hx

/-- the bits say who holds what -/
def Held (n m wd : Nat) (cs : Nat → Nat → Nat) (fr : Nat → Nat) (s : Nat) (H : Nat → Nat) : Prop := ∀ i k, i < n → k < m → (bit wd H i k ↔ R n cs s i (fr k))
theorem Held.start {n m wd : Nat} {cs : Nat → Nat → Nat} {fr : Nat → Nat} {H : Nat → Nat} (h : Seed n m wd fr m H) : Held n m wd cs fr 0 H := by
  intro i k hi hk
  rw [h i k hi hk]
  exact ⟨fun a => a.2.symm, fun a => ⟨hk, a.symm⟩⟩
theorem Held.step {n m wd : Nat} {cs : Nat → Nat → Nat} {fr : Nat → Nat} {s : Nat} {H N H2 : Nat → Nat} (h : Held n m wd cs fr s H) (hm : m ≤ wd * 64) (hc : ∀ i, i < n → cs s i < n)
    (hg : Gath n wd (cs s) H n 0 N) (hb : Back wd (cs s) N n H2) : Held n m wd cs fr (s + 1) H2 := by
  intro i k hi hk
  have hx : k / 64 < wd := by omega
  unfold bit
  rw [hb i (k / 64) hi hx, hg (cs s i) (k / 64) (k % 64) (hc i hi) hx]
  constructor
  · rintro ⟨j, e, a, t⟩
    exact ⟨j, by omega, e, (h j k (by omega) hk).1 t⟩
  · rintro ⟨j, hj, e, t⟩
    exact ⟨j, e, .inl hj, (h j k hj hk).2 t⟩

/-- the counts, at node i0 and message k0 -/
def Cnts (m : Nat) (P : Nat → Nat → Prop) (i0 k0 : Nat) (c : Nat → Nat) : Prop := ∀ k, k < m → c k = if k < k0 then cnt (P k) (i0 + 1) else cnt (P k) i0
theorem Cnts.start (m : Nat) (P : Nat → Nat → Prop) : Cnts m P 0 0 (fun _ => 0) := fun k _ => by rw [if_neg (by omega)]; rfl
theorem Cnts.row {m : Nat} {P : Nat → Nat → Prop} {i0 : Nat} {c : Nat → Nat} (h : Cnts m P i0 m c) : Cnts m P (i0 + 1) 0 c := by
  intro k hk
  rw [h k hk, if_pos hk, if_neg (by omega)]
theorem Cnts.le {m : Nat} {P : Nat → Nat → Prop} {i0 k0 : Nat} {c : Nat → Nat} (h : Cnts m P i0 k0 c) (k : Nat) (hk : k < m) : c k ≤ i0 + 1 := by
  rw [h k hk]; split
  · exact cnt_le _ _
  · have := cnt_le (P k) i0; omega
theorem Cnts.yes {m : Nat} {P : Nat → Nat → Prop} {i0 k0 : Nat} {c : Nat → Nat} (h : Cnts m P i0 k0 c) (hp : P k0 i0) (hk0 : k0 < m) : Cnts m P i0 (k0 + 1) (fun j => if j = k0 then c k0 + 1 else c j) := by
  intro k hk
  show (if k = k0 then c k0 + 1 else c k) = _
  by_cases e : k = k0
  · subst e
    rw [if_pos rfl, if_pos (by omega), h k hk, if_neg (by omega), cnt_yes hp]
  · rw [if_neg e, h k hk]
    by_cases q : k < k0
    · rw [if_pos q, if_pos (by omega)]
    · rw [if_neg q, if_neg (by omega)]
theorem Cnts.no {m : Nat} {P : Nat → Nat → Prop} {i0 k0 : Nat} {c : Nat → Nat} (h : Cnts m P i0 k0 c) (hp : ¬ P k0 i0) : Cnts m P i0 (k0 + 1) c := by
  intro k hk
  rw [h k hk]
  by_cases e : k = k0
  · subst e
    rw [if_neg (by omega), if_pos (by omega), cnt_no hp]
  · by_cases q : k < k0
    · rw [if_pos q, if_pos (by omega)]
    · rw [if_neg q, if_neg (by omega)]
end Go.Proofs.Qxb6603019a.GridPlain
