/- Plain: labels of connected components; union-find whose root is the smallest; one more pair. No Go in sight. -/
namespace Go.Proofs.Qxb6603019a.Lab

/-- i and j are joined by the edges: no function that is one along every edge parts them. -/
def Conn (E : Nat → Nat → Prop) (i j : Nat) : Prop := ∀ g : Nat → Nat, (∀ x y, E x y → g x = g y) → g i = g j
/-- f names each node of [0, n) by the smallest node of its component -/
def IsLab (n : Nat) (E : Nat → Nat → Prop) (f : Nat → Nat) : Prop :=
  (∀ i, i < n → f i ≤ i) ∧ (∀ x y, E x y → f x = f y) ∧ (∀ i, i < n → Conn E i (f i))

theorem lab_le {n : Nat} {E : Nat → Nat → Prop} {f g : Nat → Nat} (hf : IsLab n E f) (hg : IsLab n E g) (i : Nat) (hi : i < n) : g i ≤ f i := by
  have h1 := hf.2.2 i hi g hg.2.1
  rw [h1]
  exact hg.1 _ (Nat.lt_of_le_of_lt (hf.1 i hi) hi)
theorem lab_unique {n : Nat} {E : Nat → Nat → Prop} {f g : Nat → Nat} (hf : IsLab n E f) (hg : IsLab n E g) (i : Nat) (hi : i < n) : f i = g i :=
  Nat.le_antisymm (lab_le hg hf i hi) (lab_le hf hg i hi)
theorem lab_congr {n : Nat} {E E' : Nat → Nat → Prop} {f : Nat → Nat} (h : ∀ x y, E x y ↔ E' x y) (hf : IsLab n E f) : IsLab n E' f :=
  ⟨hf.1, fun x y e => hf.2.1 x y ((h x y).2 e), fun i hi g hg => hf.2.2 i hi g fun x y e => hg x y ((h x y).1 e)⟩

/-- one more pair: the larger of the two old names is renamed to the smaller -/
theorem lab_merge {n : Nat} {E E' : Nat → Nat → Prop} {f f' : Nat → Nat} {a b : Nat} (ha : a < n) (hb : b < n) (hf : IsLab n E f) (hf' : IsLab n E' f') (hE : ∀ x y, E' x y ↔ (E x y ∨ (x = a ∧ y = b))) {lo hi : Nat}
    (hlo : lo = min (f a) (f b)) (hhi : hi = max (f a) (f b)) (i : Nat) (hi' : i < n) : f' i = if f i = hi then lo else f i := by
  refine lab_unique hf' (g := fun i => if f i = hi then lo else f i) ⟨?_, ?_, ?_⟩ i hi'
  · intro j hj
    have := hf.1 j hj
    show (if f j = hi then lo else f j) ≤ j
    split <;> omega
  · intro x y e
    show (if f x = hi then lo else f x) = (if f y = hi then lo else f y)
    rcases (hE x y).1 e with h | ⟨rfl, rfl⟩
    · rw [hf.2.1 x y h]
    · split <;> split <;> omega
  · intro j hj g hg
    have hgE : ∀ x y, E x y → g x = g y := fun x y e => hg x y ((hE x y).2 (.inl e))
    have h1 := hf.2.2 j hj g hgE
    have h2 := hf.2.2 a ha g hgE
    have h3 := hf.2.2 b hb g hgE
    have h4 := hg a b ((hE a b).2 (.inr ⟨rfl, rfl⟩))
    show g j = g (if f j = hi then lo else f j)
    split
    · rename_i h
      rw [h1, h, hlo, hhi]
      rcases Nat.le_total (f a) (f b) with h | h
      · rw [Nat.min_eq_left h, Nat.max_eq_right h]; omega
      · rw [Nat.min_eq_right h, Nat.max_eq_left h]; omega
    · exact h1

/-! ### the union-find -/
def rtF (c : Nat → Nat) : Nat → Nat → Nat
  | 0, i => i
  | k + 1, i => if c i = i then i else rtF c k (c i)
/-- the root of i -/
def rt (c : Nat → Nat) (i : Nat) : Nat := rtF c i i

/-- parents are no larger -/
def Low (n : Nat) (c : Nat → Nat) : Prop := ∀ j, j < n → c j ≤ j

theorem rtF_succ {n : Nat} {c : Nat → Nat} (h : Low n c) : ∀ k i, i < n → i ≤ k → rtF c (k + 1) i = rtF c k i := by
  intro k
  induction k with
  | zero =>
    intro i hi hk
    have : c i = i := by have := h i hi; omega
    simp [rtF, this]
  | succ k ih =>
    intro i hi hk
    rw [rtF]
    conv => rhs; rw [rtF]
    by_cases e : c i = i
    · rw [if_pos e, if_pos e]
    · rw [if_neg e, if_neg e]
      have := h i hi
      exact ih (c i) (by omega) (by omega)
theorem rtF_rt {n : Nat} {c : Nat → Nat} (h : Low n c) (i : Nat) (hi : i < n) (k : Nat) (hk : i ≤ k) : rtF c k i = rt c i := by
  obtain ⟨d, rfl⟩ : ∃ d, k = i + d := ⟨k - i, by omega⟩
  clear hk
  induction d with
  | zero => rfl
  | succ d ih => rw [← ih, ← Nat.add_assoc, rtF_succ h _ i hi (by omega)]
theorem rt_fix {c : Nat → Nat} {i : Nat} (h : c i = i) : rt c i = i := by
  unfold rt; cases i with
  | zero => rfl
  | succ i => simp [rtF, h]
theorem rt_step {n : Nat} {c : Nat → Nat} (h : Low n c) {i : Nat} (hi : i < n) : rt c (c i) = rt c i := by
  by_cases e : c i = i
  · rw [e]
  · have hlt : c i < i := by have := h i hi; omega
    obtain ⟨m, rfl⟩ : ∃ m, i = m + 1 := ⟨i - 1, by omega⟩
    conv => rhs; unfold rt; rw [rtF, if_neg e]
    rw [rtF_rt h (c (m + 1)) (by omega) m (by omega)]
theorem rt_le {n : Nat} {c : Nat → Nat} (h : Low n c) : ∀ i, i < n → rt c i ≤ i := by
  intro i
  induction i using Nat.strongRecOn with
  | _ i ih =>
    intro hi
    by_cases e : c i = i
    · rw [rt_fix e]; exact Nat.le_refl _
    · have hlt : c i < i := by have := h i hi; omega
      rw [← rt_step h hi]
      have := ih (c i) hlt (by omega)
      omega
theorem rt_root {n : Nat} {c : Nat → Nat} (h : Low n c) : ∀ i, i < n → c (rt c i) = rt c i := by
  intro i
  induction i using Nat.strongRecOn with
  | _ i ih =>
    intro hi
    by_cases e : c i = i
    · rw [rt_fix e]; exact e
    · have hlt : c i < i := by have := h i hi; omega
      rw [← rt_step h hi]
      exact ih (c i) hlt (by omega)
theorem rt_rt {n : Nat} {c : Nat → Nat} (h : Low n c) {i : Nat} (hi : i < n) : rt c (rt c i) = rt c i := rt_fix (rt_root h i hi)

/-- what the closure 'root' does to the parents: no root is changed, none is raised, whoever stands at its root stays there -/
def Halved (n : Nat) (c c' : Nat → Nat) : Prop := Low n c' ∧ (∀ j, j < n → rt c' j = rt c j) ∧ (∀ j, j < n → c j = rt c j → c' j = rt c j)

theorem Halved.refl {n : Nat} {c : Nat → Nat} (h : Low n c) : Halved n c c := ⟨h, fun _ _ => rfl, fun _ _ e => e⟩
theorem rt_same {n : Nat} {c c' : Nat → Nat} (h' : Low n c') (hs : ∀ j, j < n → (c j = j → c' j = j) ∧ (c j ≠ j → c' j < j ∧ rt c (c' j) = rt c j)) : ∀ j, j < n → rt c' j = rt c j := by
  intro j
  induction j using Nat.strongRecOn with
  | _ j ih =>
    intro hj
    by_cases e : c j = j
    · rw [rt_fix e, rt_fix ((hs j hj).1 e)]
    · obtain ⟨h1, h2⟩ := (hs j hj).2 e
      rw [← rt_step h' hj, ih (c' j) h1 (by omega), h2]
theorem Halved.trans {n : Nat} {c c' c'' : Nat → Nat} (h : Halved n c c') (k : Halved n c' c'') : Halved n c c'' :=
  ⟨k.1, fun j hj => (k.2.1 j hj).trans (h.2.1 j hj), fun j hj e => by
    have e2 := h.2.2 j hj e
    have e3 := k.2.2 j hj (by rw [h.2.1 j hj]; exact e2)
    rw [e3, h.2.1 j hj]⟩
/-- one halving -/
theorem halve {n : Nat} {c : Nat → Nat} (h : Low n c) {i : Nat} (hi : i < n) : Halved n c (fun j => if j = i then c (c i) else c j) := by
  have hci : c i < n := Nat.lt_of_le_of_lt (h i hi) hi
  have hl : Low n (fun j => if j = i then c (c i) else c j) := by
    intro j hj
    show (if j = i then c (c i) else c j) ≤ j
    split
    · rename_i e
      have h1 := h i hi
      have h2 := h (c i) hci
      omega
    · exact h j hj
  refine ⟨hl, rt_same hl ?_, ?_⟩
  · intro j hj
    constructor
    · intro e
      show (if j = i then c (c i) else c j) = j
      split
      · rename_i e2; subst e2; rw [e, e]
      · exact e
    · intro e
      have h1 := h j hj
      show (if j = i then c (c i) else c j) < j ∧ rt c (if j = i then c (c i) else c j) = rt c j
      split
      · rename_i e2
        subst e2
        have h2 := h (c j) hci
        exact ⟨by omega, by rw [rt_step h hci, rt_step h hj]⟩
      · exact ⟨by omega, rt_step h hj⟩
  · intro j hj e
    show (if j = i then c (c i) else c j) = rt c j
    split
    · rename_i e2
      subst e2
      have := rt_root h j hj
      rw [e, this]
    · exact e

/-- two roots joined -/
def joined (c : Nat → Nat) (a b : Nat) : Nat → Nat := fun j => if j = max a b then min a b else c j
theorem joined_low {n : Nat} {c : Nat → Nat} (h : Low n c) (a b : Nat) : Low n (joined c a b) := by
  intro j hj
  unfold joined
  split
  · omega
  · exact h j hj
theorem rt_joined {n : Nat} {c : Nat → Nat} (h : Low n c) {a b : Nat} (ha : c a = a) (hb : c b = b) : ∀ j, j < n → rt (joined c a b) j = if rt c j = max a b then min a b else rt c j := by
  have hl := joined_low h a b
  have hlo : c (min a b) = min a b := by rcases Nat.le_total a b with h | h <;> simp [Nat.min_eq_left, Nat.min_eq_right, h, ha, hb]
  have hhi : c (max a b) = max a b := by rcases Nat.le_total a b with h | h <;> simp [Nat.max_eq_left, Nat.max_eq_right, h, ha, hb]
  have hjlo : joined c a b (min a b) = min a b := by
    unfold joined
    split
    · rfl
    · exact hlo
  intro j
  induction j using Nat.strongRecOn with
  | _ j ih =>
    intro hj
    by_cases e : c j = j
    · rw [rt_fix e]
      by_cases e2 : j = max a b
      · rw [if_pos e2]
        rw [← rt_step hl hj]
        have : joined c a b j = min a b := by unfold joined; rw [if_pos e2]
        rw [this, rt_fix hjlo]
      · rw [if_neg e2]
        exact rt_fix (by unfold joined; rw [if_neg e2]; exact e)
    · have hlt : c j < j := by have := h j hj; omega
      have hne : j ≠ max a b := by intro e2; apply e; rw [e2]; exact hhi
      have hjj : joined c a b j = c j := by unfold joined; rw [if_neg hne]
      rw [← rt_step hl hj, hjj, ih (c j) hlt (by omega), rt_step h hj]

/-- the parents after the pairs E -/
def Inv (n : Nat) (E : Nat → Nat → Prop) (c : Nat → Nat) : Prop :=
  Low n c ∧ (∀ x y, E x y → rt c x = rt c y) ∧ (∀ j, j < n → Conn E j (rt c j))
theorem Inv.start (n : Nat) (E : Nat → Nat → Prop) (hE : ∀ x y, ¬ E x y) : Inv n E (fun j => j) :=
  ⟨fun _ _ => Nat.le_refl _, fun x y e => absurd e (hE x y), fun j _ g _ => by rw [rt_fix rfl]⟩
theorem Inv.halved {n : Nat} {E : Nat → Nat → Prop} {c c' : Nat → Nat} (hE : ∀ x y, E x y → x < n ∧ y < n) (h : Inv n E c) (k : Halved n c c') : Inv n E c' :=
  ⟨k.1, fun x y e => by rw [k.2.1 x (hE x y e).1, k.2.1 y (hE x y e).2]; exact h.2.1 x y e, fun j hj => by rw [k.2.1 j hj]; exact h.2.2 j hj⟩
theorem Inv.congr {n : Nat} {E E' : Nat → Nat → Prop} {c : Nat → Nat} (hE : ∀ x y, E x y ↔ E' x y) (h : Inv n E c) : Inv n E' c :=
  ⟨h.1, fun x y e => h.2.1 x y ((hE x y).2 e), fun j hj g hg => h.2.2 j hj g fun x y e => hg x y ((hE x y).1 e)⟩
theorem Inv.join {n : Nat} {E E' : Nat → Nat → Prop} {c : Nat → Nat} {x y : Nat} (hEn : ∀ x y, E x y → x < n ∧ y < n) (hE : ∀ u v, E' u v ↔ (E u v ∨ (u = x ∧ v = y))) (hx : x < n) (hy : y < n) (h : Inv n E c) : Inv n E' (joined c (rt c x) (rt c y)) := by
  have hj := rt_joined h.1 (rt_root h.1 x hx) (rt_root h.1 y hy)
  refine ⟨joined_low h.1 _ _, ?_, ?_⟩
  · intro u v e
    rcases (hE u v).1 e with e | ⟨rfl, rfl⟩
    · rw [hj u (hEn u v e).1, hj v (hEn u v e).2, h.2.1 u v e]
    · rw [hj u hx, hj v hy]
      split <;> split <;> omega
  · intro j hjn g hg
    have hgE : ∀ u v, E u v → g u = g v := fun u v e => hg u v ((hE u v).2 (.inl e))
    have h1 := h.2.2 j hjn g hgE
    have h2 := h.2.2 x hx g hgE
    have h3 := h.2.2 y hy g hgE
    have h4 := hg x y ((hE x y).2 (.inr ⟨rfl, rfl⟩))
    rw [hj j hjn]
    split
    · rename_i e
      rw [h1, e]
      rcases Nat.le_total (rt c x) (rt c y) with h | h
      · rw [Nat.min_eq_left h, Nat.max_eq_right h]; omega
      · rw [Nat.min_eq_right h, Nat.max_eq_left h]; omega
    · exact h1
theorem Inv.lab {n : Nat} {E : Nat → Nat → Prop} {c : Nat → Nat} (h : Inv n E c) : IsLab n E (rt c) := ⟨rt_le h.1, h.2.1, h.2.2⟩

/-- the last loop: the first k stand at their names, all roots are as they were -/
def Last (n : Nat) (f c : Nat → Nat) (k : Nat) : Prop := Low n c ∧ (∀ j, j < n → rt c j = f j) ∧ (∀ j, j < k → c j = f j)
theorem Last.step {n : Nat} {f c c2 : Nat → Nat} {k : Nat} (h : Last n f c k) (hk : k < n) (h2 : Halved n c c2) : Last n f (fun j => if j = k then rt c k else c2 j) (k + 1) := by
  have hr : ∀ j, j < n → rt c2 j = f j := fun j hj => (h2.2.1 j hj).trans (h.2.1 j hj)
  have hrk : rt c k = rt c2 k := (h2.2.1 k hk).symm
  have hl : Low n (fun j => if j = k then rt c k else c2 j) := by
    intro j hj
    show (if j = k then rt c k else c2 j) ≤ j
    split
    · rename_i e; subst e; exact rt_le h.1 j hj
    · exact h2.1 j hj
  refine ⟨hl, fun j hj => ?_, fun j hj => ?_⟩
  · rw [← hr j hj]
    refine rt_same (c := c2) hl ?_ j hj
    intro j hj
    constructor
    · intro e
      show (if j = k then rt c k else c2 j) = j
      split
      · rename_i e2; subst e2; rw [hrk]; exact rt_fix e
      · exact e
    · intro e
      show (if j = k then rt c k else c2 j) < j ∧ rt c2 (if j = k then rt c k else c2 j) = rt c2 j
      have hle := h2.1 j hj
      split
      · rename_i e2
        subst e2
        rw [hrk]
        refine ⟨?_, rt_rt h2.1 hj⟩
        have := rt_le h2.1 (c2 j) (by omega)
        rw [rt_step h2.1 hj] at this
        omega
      · exact ⟨by omega, rt_step h2.1 hj⟩
  · show (if j = k then rt c k else c2 j) = f j
    split
    · rename_i e; subst e; exact h.2.1 j hk
    · have hjk : j < k := by omega
      have e1 := h.2.2 j hjk
      have e2 := h2.2.2 j (by omega) (by rw [h.2.1 j (by omega)]; exact e1)
      rw [e2, h.2.1 j (by omega)]

end Go.Proofs.Qxb6603019a.Lab
