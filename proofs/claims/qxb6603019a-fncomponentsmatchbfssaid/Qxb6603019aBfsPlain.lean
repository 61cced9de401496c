/- Plain: the half edges; the adjacency rows by counting; the breadth-first search's invariants. -/
import Derived.Test.Qxb6603019aLab
namespace Go.Proofs.Qxb6603019a.Bfs
open Go.Proofs.Qxb6603019a.Lab

/-- each edge both ways -/
def half : List (Nat × Nat) → List (Nat × Nat)
  | [] => []
  | p :: r => (p.1, p.2) :: (p.2, p.1) :: half r
theorem half_append (a b : List (Nat × Nat)) : half (a ++ b) = half a ++ half b := by
  induction a with
  | nil => rfl
  | cons p r ih => simp [half, ih]
theorem half_len (a : List (Nat × Nat)) : (half a).length = 2 * a.length := by
  induction a with
  | nil => rfl
  | cons p r ih => simp [half, ih]; omega
theorem mem_half {l : List (Nat × Nat)} {x y : Nat} : (x, y) ∈ half l ↔ ((x, y) ∈ l ∨ (y, x) ∈ l) := by
  induction l with
  | nil => simp [half]
  | cons p r ih =>
    obtain ⟨a, b⟩ := p
    simp only [half, List.mem_cons, ih, Prod.mk.injEq]
    constructor
    · rintro (h | h | h | h)
      · exact .inl (.inl h)
      · exact .inr (.inl ⟨h.2, h.1⟩)
      · exact .inl (.inr h)
      · exact .inr (.inr h)
    · rintro ((h | h) | (h | h))
      · exact .inl h
      · exact .inr (.inr (.inl h))
      · exact .inr (.inl ⟨h.2, h.1⟩)
      · exact .inr (.inr (.inr h))

/-- how many half edges leave v -/
def deg (l : List (Nat × Nat)) (v : Nat) : Nat := l.countP (fun p => p.1 == v)
/-- where v's row begins -/
def beg (l : List (Nat × Nat)) (v : Nat) : Nat := l.countP (fun p => decide (p.1 < v))
theorem deg_snoc (l : List (Nat × Nat)) (x y v : Nat) : deg (l ++ [(x, y)]) v = deg l v + if v = x then 1 else 0 := by
  unfold deg
  rw [List.countP_append]
  by_cases h : v = x
  · subst h; simp
  · simp [h, Ne.symm h]
theorem beg_zero (l : List (Nat × Nat)) : beg l 0 = 0 := by simp [beg]
theorem beg_succ (l : List (Nat × Nat)) (v : Nat) : beg l (v + 1) = beg l v + deg l v := by
  unfold beg deg
  induction l with
  | nil => rfl
  | cons p r ih =>
    simp only [List.countP_cons]
    rw [ih]
    by_cases h1 : p.1 < v
    · have : ¬ p.1 = v := by omega
      simp [h1, this, show p.1 < v + 1 by omega]; omega
    · by_cases h2 : p.1 = v
      · simp [h2]; omega
      · simp [h1, h2, show ¬ p.1 < v + 1 by omega]
theorem beg_le (l : List (Nat × Nat)) (v : Nat) : beg l v ≤ l.length := List.countP_le_length
theorem beg_all {l : List (Nat × Nat)} {n : Nat} (h : ∀ p ∈ l, p.1 < n) : beg l n = l.length := by
  unfold beg
  rw [List.countP_eq_length]
  intro p hp
  simpa using h p hp
theorem deg_le (l : List (Nat × Nat)) (v : Nat) : deg l v ≤ l.length := List.countP_le_length
theorem beg_mono (l : List (Nat × Nat)) {a b : Nat} (h : a ≤ b) : beg l a ≤ beg l b := by
  obtain ⟨d, rfl⟩ : ∃ d, b = a + d := ⟨b - a, by omega⟩
  clear h
  induction d with
  | zero => exact Nat.le_refl _
  | succ d ih => rw [← Nat.add_assoc, beg_succ]; omega

/-- the counts, one place on -/
def cnts (l : List (Nat × Nat)) (j : Nat) : Nat := if j = 0 then 0 else deg l (j - 1)
theorem cnts_snoc (l : List (Nat × Nat)) (x y j : Nat) : (if j = x + 1 then cnts l (x + 1) + 1 else cnts l j) = cnts (l ++ [(x, y)]) j := by
  unfold cnts
  by_cases h0 : j = 0
  · subst h0; simp
  · rw [if_neg h0, if_neg h0, deg_snoc]
    by_cases h : j = x + 1
    · subst h; simp
    · rw [if_neg h, if_neg (by omega)]; rfl
theorem cnts_le (l : List (Nat × Nat)) (j : Nat) : cnts l j ≤ l.length := by
  unfold cnts; split
  · omega
  · exact deg_le l _
/-- while the counts are added up -/
def sums (l : List (Nat × Nat)) (v j : Nat) : Nat := if j ≤ v then beg l j else cnts l j
theorem sums_zero (l : List (Nat × Nat)) (j : Nat) : sums l 0 j = cnts l j := by
  unfold sums; split
  · rename_i h
    obtain rfl : j = 0 := by omega
    rw [beg_zero]; rfl
  · rfl
theorem sums_step (l : List (Nat × Nat)) (v j : Nat) : (if j = v + 1 then sums l v (v + 1) + sums l v v else sums l v j) = sums l (v + 1) j := by
  unfold sums
  by_cases h : j = v + 1
  · subst h
    rw [if_pos rfl, if_neg (by omega), if_pos (Nat.le_refl _), if_pos (Nat.le_refl _), beg_succ]
    unfold cnts
    rw [if_neg (by omega), Nat.add_sub_cancel]
    omega
  · rw [if_neg h]
    by_cases h2 : j ≤ v
    · rw [if_pos h2, if_pos (by omega)]
    · rw [if_neg h2, if_neg (by omega)]
theorem sums_le (l : List (Nat × Nat)) (v j : Nat) : sums l v j ≤ l.length := by
  unfold sums; split
  · exact beg_le l j
  · exact cnts_le l j

/-- the adjacency rows, the half edges 'd' being laid: F: the next free place of each row -/
def Laid (l : List (Nat × Nat)) (n : Nat) (d : List (Nat × Nat)) (F A : Nat → Nat) : Prop :=
  (∀ v, v < n → F v = beg l v + deg d v) ∧ (∀ v, v < n → ∀ j, beg l v ≤ j → j < F v → (v, A j) ∈ d) ∧ (∀ x y, (x, y) ∈ d → x < n → ∃ j, beg l x ≤ j ∧ j < F x ∧ A j = y)
theorem Laid.start (l : List (Nat × Nat)) (n : Nat) (F A : Nat → Nat) (hF : ∀ v, v < n → F v = beg l v) : Laid l n [] F A :=
  ⟨fun v hv => by rw [hF v hv]; simp [deg], fun v hv j h1 h2 => by rw [hF v hv] at h2; omega, fun x y h => by simp at h⟩
/-- there is room for one more -/
theorem room {l d e : List (Nat × Nat)} {x y : Nat} (hl : l = d ++ (x, y) :: e) : deg d x + 1 ≤ deg l x := by
  subst hl
  unfold deg
  rw [List.countP_append, List.countP_cons]
  simp
theorem seg_ne {l : List (Nat × Nat)} {v x p : Nat} (hvx : v ≠ x) (h1 : beg l x ≤ p) (h2 : p < beg l (x + 1)) : ¬ (beg l v ≤ p ∧ p < beg l (v + 1)) := by
  rintro ⟨h3, h4⟩
  rcases Nat.lt_or_gt_of_ne hvx with h | h
  · have := beg_mono l (show v + 1 ≤ x by omega); omega
  · have := beg_mono l (show x + 1 ≤ v by omega); omega
theorem Laid.step {l d e : List (Nat × Nat)} {n x y : Nat} {F A : Nat → Nat} (h : Laid l n d F A) (hl : l = d ++ (x, y) :: e) (hx : x < n) :
    Laid l n (d ++ [(x, y)]) (fun j => if j = x then F x + 1 else F j) (fun j => if j = F x then y else A j) := by
  have hroom := room hl
  have hFx := h.1 x hx
  have hend : ∀ v, v < n → F v ≤ beg l (v + 1) := by
    intro v hv
    rw [h.1 v hv, beg_succ]
    have : deg d v ≤ deg l v := by subst hl; unfold deg; rw [List.countP_append]; omega
    omega
  have hlt : F x < beg l (x + 1) := by rw [hFx, beg_succ]; omega
  refine ⟨?_, ?_, ?_⟩
  · intro v hv
    show (if v = x then F x + 1 else F v) = _
    rw [deg_snoc]
    split
    · rename_i e; subst e; rw [hFx]; omega
    · rw [h.1 v hv]; omega
  · intro v hv j h1 h2
    replace h2 : j < (if v = x then F x + 1 else F v) := h2
    show (v, if j = F x then y else A j) ∈ _
    by_cases e : j = F x
    · rw [if_pos e]
      have hvx : v = x := by
        apply Classical.byContradiction
        intro hne
        rw [if_neg hne] at h2
        have h3 := hend v hv
        exact seg_ne hne (p := j) (by rw [e, hFx]; omega) (by rw [e]; exact hlt) ⟨h1, by omega⟩
      rw [hvx]; simp
    · rw [if_neg e]
      have : j < F v := by
        split at h2
        · rename_i hvx; subst hvx; omega
        · exact h2
      exact List.mem_append_left _ (h.2.1 v hv j h1 this)
  · intro u v huv hu
    show ∃ j, beg l u ≤ j ∧ j < (if u = x then F x + 1 else F u) ∧ (if j = F x then y else A j) = v
    rcases List.mem_append.1 huv with h1 | h1
    · obtain ⟨j, hj1, hj2, hj3⟩ := h.2.2 u v h1 hu
      have hne : j ≠ F x := by
        intro e
        by_cases hux : u = x
        · subst hux; omega
        · have h3 := hend u hu
          exact seg_ne hux (p := j) (by rw [e, hFx]; omega) (by rw [e]; exact hlt) ⟨hj1, by omega⟩
      refine ⟨j, hj1, ?_, by rw [if_neg hne]; exact hj3⟩
      split
      · rename_i hux; subst hux; omega
      · exact hj2
    · simp only [List.mem_singleton, Prod.mk.injEq] at h1
      obtain ⟨rfl, rfl⟩ := h1
      exact ⟨F u, by omega, by rw [if_pos rfl]; omega, by rw [if_pos rfl]⟩
/-- what the search reads of the rows -/
def Adj (l : List (Nat × Nat)) (n : Nat) (A : Nat → Nat) : Prop :=
  (∀ v, v < n → ∀ j, beg l v ≤ j → j < beg l (v + 1) → (v, A j) ∈ l) ∧ (∀ x y, (x, y) ∈ l → x < n → ∃ j, beg l x ≤ j ∧ j < beg l (x + 1) ∧ A j = y)
theorem Laid.done {l : List (Nat × Nat)} {n : Nat} {F A : Nat → Nat} (h : Laid l n l F A) : Adj l n A := by
  constructor
  · intro v hv j h1 h2
    exact h.2.1 v hv j h1 (by rw [h.1 v hv, ← beg_succ]; exact h2)
  · intro x y hxy hx
    obtain ⟨j, h1, h2, h3⟩ := h.2.2 x y hxy hx
    exact ⟨j, h1, by rw [beg_succ, ← h.1 x hx]; exact h2, h3⟩

/-! ### the search -/
def cnt (f : Nat → Bool) : Nat → Nat
  | 0 => 0
  | k + 1 => cnt f k + if f k then 1 else 0
theorem cnt_le (f : Nat → Bool) (n : Nat) : cnt f n ≤ n := by
  induction n with
  | zero => exact Nat.le_refl _
  | succ n ih => simp only [cnt]; split <;> omega
theorem cnt_lt (f : Nat → Bool) (n w : Nat) (hw : w < n) (h : f w = false) : cnt f n < n := by
  induction n with
  | zero => omega
  | succ n ih =>
    simp only [cnt]
    by_cases e : w = n
    · subst e; rw [h]; have := cnt_le f w; simp; omega
    · have := ih (by omega); split <;> omega
theorem cnt_congr {f g : Nat → Bool} {n : Nat} (h : ∀ v, v < n → f v = g v) : cnt f n = cnt g n := by
  induction n with
  | zero => rfl
  | succ n ih => simp only [cnt]; rw [ih fun v hv => h v (by omega), h n (by omega)]
theorem cnt_set {f : Nat → Bool} {n w : Nat} (hw : w < n) (h : f w = false) : cnt (fun v => if v = w then true else f v) n = cnt f n + 1 := by
  induction n with
  | zero => omega
  | succ n ih =>
    simp only [cnt]
    by_cases e : w = n
    · subst e
      rw [cnt_congr (g := f) fun v hv => if_neg (by omega)]
      simp [h]
    · rw [ih (by omega)]
      have e2 : (if n = w then true else f n) = f n := if_neg (fun h => e h.symm)
      simp only [e2]
      omega

/-- the state between two searches: all below s are seen; whoever is seen is named, and so are its neighbours, alike -/
def Out (n : Nat) (l : List (Nat × Nat)) (s : Nat) (seen : Nat → Bool) (L : Nat → Nat) : Prop :=
  (∀ v, v < n → v < s → seen v = true) ∧ (∀ v, v < n → seen v = true → L v ≤ v ∧ Conn (fun x y => (x, y) ∈ l) v (L v)) ∧ (∀ v u, v < n → seen v = true → (v, u) ∈ l → seen u = true ∧ L u = L v)
/-- the state inside the search from s -/
def In (n : Nat) (l : List (Nat × Nat)) (s : Nat) (seen0 : Nat → Bool) (L0 : Nat → Nat) (seen : Nat → Bool) (L Q : Nat → Nat) (tail head : Nat) : Prop :=
  (∀ v, v < n → seen0 v = true → seen v = true ∧ L v = L0 v) ∧
  (∀ i, i < tail → Q i < n ∧ seen0 (Q i) = false ∧ seen (Q i) = true ∧ L (Q i) = s ∧ Conn (fun x y => (x, y) ∈ l) (Q i) s) ∧
  (∀ v, v < n → seen v = true → seen0 v = true ∨ ∃ i, i < tail ∧ Q i = v) ∧
  (∀ i, i < head → ∀ u, (Q i, u) ∈ l → seen u = true ∧ L u = s) ∧
  cnt seen n = cnt seen0 n + tail ∧ seen s = true ∧ head ≤ tail

theorem Out.start (n : Nat) (l : List (Nat × Nat)) (seen : Nat → Bool) (L : Nat → Nat) (h : ∀ v, v < n → seen v = false) : Out n l 0 seen L :=
  ⟨(fun v _ h => by omega), (fun v hv e => by rw [h v hv] at e; cases e), (fun v u hv e => by rw [h v hv] at e; cases e)⟩
theorem Out.skip {n : Nat} {l : List (Nat × Nat)} {s : Nat} {seen : Nat → Bool} {L : Nat → Nat} (h : Out n l s seen L) (hs : seen s = true) : Out n l (s + 1) seen L := by
  refine ⟨fun v hv hvs => ?_, h.2⟩
  by_cases e : v = s
  · rw [e]; exact hs
  · exact h.1 v hv (by omega)
theorem In.start {n : Nat} {l : List (Nat × Nat)} {s : Nat} {seen : Nat → Bool} {L Q : Nat → Nat} (hs : s < n) (hns : seen s = false) :
    In n l s seen L (fun v => if v = s then true else seen v) (fun v => if v = s then s else L v) (fun i => if i = 0 then s else Q i) 1 0 := by
  refine ⟨?_, ?_, ?_, fun i hi => by omega, cnt_set hs hns, if_pos rfl, by omega⟩
  · intro v _ h
    have : v ≠ s := by rintro rfl; rw [hns] at h; cases h
    show (if v = s then true else seen v) = true ∧ (if v = s then s else L v) = L v
    rw [if_neg this, if_neg this]; exact ⟨h, rfl⟩
  · intro i hi
    obtain rfl : i = 0 := by omega
    show (if (0 : Nat) = 0 then s else Q 0) < n ∧ _
    simp only [if_true]
    exact ⟨hs, hns, trivial, trivial, fun g _ => rfl⟩
  · intro v _ h
    by_cases e : v = s
    · exact .inr ⟨0, by omega, by simp [e]⟩
    · left
      have h' : (if v = s then true else seen v) = true := h
      rw [if_neg e] at h'; exact h'
theorem In.tail_lt {n : Nat} {l : List (Nat × Nat)} {s : Nat} {seen0 seen : Nat → Bool} {L0 L Q : Nat → Nat} {tail head w : Nat} (h : In n l s seen0 L0 seen L Q tail head) (hw : w < n) (hs : seen w = false) : tail < n := by
  have := cnt_lt seen n w hw hs
  have := h.2.2.2.2.1
  omega
/-- a new node -/
theorem In.mark {n : Nat} {l : List (Nat × Nat)} {s : Nat} {seen0 seen : Nat → Bool} {L0 L Q : Nat → Nat} {tail head w : Nat} (h : In n l s seen0 L0 seen L Q tail head) (hw : w < n) (hns : seen w = false) (hh : head < tail) (hvw : (Q head, w) ∈ l) :
    In n l s seen0 L0 (fun v => if v = w then true else seen v) (fun v => if v = w then s else L v) (fun i => if i = tail then w else Q i) (tail + 1) head := by
  obtain ⟨h1, h2, h3, h4, h5, h6, h7⟩ := h
  have hne : ∀ v, seen v = true → v ≠ w := by rintro v hv rfl; rw [hns] at hv; cases hv
  have hns0 : seen0 w = false := by
    cases e : seen0 w
    · rfl
    · have := (h1 w hw e).1; rw [hns] at this; cases this
  refine ⟨?_, ?_, ?_, ?_, ?_, ?_, by omega⟩
  · intro v hv e
    obtain ⟨a, b⟩ := h1 v hv e
    show (if v = w then true else seen v) = true ∧ (if v = w then s else L v) = L0 v
    rw [if_neg (hne v a), if_neg (hne v a)]; exact ⟨a, b⟩
  · intro i hi
    show (if i = tail then w else Q i) < n ∧ seen0 (if i = tail then w else Q i) = false ∧ (if (if i = tail then w else Q i) = w then true else seen (if i = tail then w else Q i)) = true ∧ (if (if i = tail then w else Q i) = w then s else L (if i = tail then w else Q i)) = s ∧ Conn _ (if i = tail then w else Q i) s
    by_cases e : i = tail
    · simp only [if_pos e, if_true]
      refine ⟨hw, hns0, trivial, trivial, fun g hg => ?_⟩
      have a := (h2 head hh).2.2.2.2 g hg
      have b := hg _ _ hvw
      exact b.symm.trans a
    · simp only [if_neg e]
      obtain ⟨a, b, c, d, f⟩ := h2 i (by omega)
      rw [if_neg (hne _ c), if_neg (hne _ c)]
      exact ⟨a, b, c, d, f⟩
  · intro v hv e
    by_cases ev : v = w
    · exact .inr ⟨tail, by omega, by simp [ev]⟩
    · have e' : (if v = w then true else seen v) = true := e
      rw [if_neg ev] at e'
      rcases h3 v hv e' with a | ⟨i, hi, rfl⟩
      · exact .inl a
      · exact .inr ⟨i, by omega, by show (if i = tail then w else Q i) = Q i; rw [if_neg (by omega)]⟩
  · intro i hi u hu
    have hu' : (Q i, u) ∈ l := by
      have hu2 : ((if i = tail then w else Q i), u) ∈ l := hu
      rwa [if_neg (by omega)] at hu2
    obtain ⟨a, b⟩ := h4 i hi u hu'
    show (if u = w then true else seen u) = true ∧ (if u = w then s else L u) = s
    rw [if_neg (hne u a), if_neg (hne u a)]; exact ⟨a, b⟩
  · rw [cnt_set hw hns, h5]; omega
  · show (if s = w then true else seen s) = true
    split
    · rfl
    · exact h6
/-- a node that was seen: in this very search -/
theorem In.old {n : Nat} {l : List (Nat × Nat)} {s : Nat} {seen0 seen : Nat → Bool} {L0 L Q : Nat → Nat} {tail head w : Nat} (ho : Out n l s seen0 L0) (hsym : ∀ x y, (x, y) ∈ l → (y, x) ∈ l) (h : In n l s seen0 L0 seen L Q tail head) (hw : w < n) (hs : seen w = true) (hh : head < tail) (hvw : (Q head, w) ∈ l) : L w = s := by
  obtain ⟨h1, h2, h3, h4, h5, h6, h7⟩ := h
  rcases h3 w hw hs with a | ⟨i, hi, rfl⟩
  · have := (ho.2.2 w (Q head) hw a (hsym _ _ hvw)).1
    rw [(h2 head hh).2.1] at this
    cases this
  · exact (h2 i hi).2.2.2.1
/-- the head's neighbours are all named -/
theorem In.next {n : Nat} {l : List (Nat × Nat)} {s : Nat} {seen0 seen : Nat → Bool} {L0 L Q : Nat → Nat} {tail head : Nat} (h : In n l s seen0 L0 seen L Q tail head) (hh : head < tail) (hall : ∀ u, (Q head, u) ∈ l → seen u = true ∧ L u = s) : In n l s seen0 L0 seen L Q tail (head + 1) := by
  obtain ⟨h1, h2, h3, h4, h5, h6, h7⟩ := h
  refine ⟨h1, h2, h3, ?_, h5, h6, by omega⟩
  intro i hi u hu
  by_cases e : i = head
  · subst e; exact hall u hu
  · exact h4 i (by omega) u hu
theorem In.done {n : Nat} {l : List (Nat × Nat)} {s : Nat} {seen0 seen : Nat → Bool} {L0 L Q : Nat → Nat} {tail : Nat} (ho : Out n l s seen0 L0) (h : In n l s seen0 L0 seen L Q tail tail) (hl : ∀ x y, (x, y) ∈ l → x < n ∧ y < n) : Out n l (s + 1) seen L := by
  obtain ⟨h1, h2, h3, h4, h5, h6, h7⟩ := h
  refine ⟨?_, ?_, ?_⟩
  · intro v hv hvs
    by_cases e : v = s
    · rw [e]; exact h6
    · exact (h1 v hv (ho.1 v hv (by omega))).1
  · intro v hv e
    rcases h3 v hv e with a | ⟨i, hi, rfl⟩
    · rw [(h1 v hv a).2]; exact ho.2.1 v hv a
    · obtain ⟨a, b, c, d, f⟩ := h2 i hi
      rw [d]
      refine ⟨?_, f⟩
      rcases Nat.lt_or_ge (Q i) s with hlt | hge
      · rw [ho.1 _ hv hlt] at b; cases b
      · exact hge
  · intro v u hv e hvu
    rcases h3 v hv e with a | ⟨i, hi, rfl⟩
    · obtain ⟨b, c⟩ := ho.2.2 v u hv a hvu
      have d := h1 u (hl v u hvu).2 b
      exact ⟨d.1, by rw [d.2, (h1 v hv a).2]; exact c⟩
    · obtain ⟨b, c⟩ := h4 i hi u hvu
      exact ⟨b, by rw [c, (h2 i hi).2.2.2.1]⟩
theorem Out.lab {n : Nat} {l : List (Nat × Nat)} {seen : Nat → Bool} {L : Nat → Nat} (h : Out n l n seen L) (hl : ∀ x y, (x, y) ∈ l → x < n ∧ y < n) : IsLab n (fun x y => (x, y) ∈ l) L :=
  ⟨fun i hi => (h.2.1 i hi (h.1 i hi hi)).1, fun x y e => ((h.2.2 x y (hl x y e).1 (h.1 x (hl x y e).1 (hl x y e).1) e).2).symm, fun i hi => (h.2.1 i hi (h.1 i hi hi)).2⟩

end Go.Proofs.Qxb6603019a.Bfs
