/- The walk of compBFS, first half: the adjacency rows. -/
import Derived.Test.Qxb6603019aMergeA
import Derived.Test.Qxb6603019aBfsPlain
namespace Go.Proofs.Qxb6603019a.BfsA
open Go.RowKit Go.Proofs.Qxb6603019a.Lab Go.Proofs.Qxb6603019a.Root Go.Proofs.Qxb6603019a.Base Go.Proofs.Qxb6603019a.Comp Go.Proofs.Qxb6603019a.Keys Go.Proofs.Qxb6603019a.Bfs

theorem info3 : (Try.prog.info? 3).map (fun i => (i.zero, i.size, i.bytes)) = some (some (.int .i64 0), 1, 8) := by kernel_rfl
theorem info4 : (Try.prog.info? 4).map (fun i => (i.zero, i.size, i.bytes)) = some (some (.bool false), 1, 1) := by kernel_rfl

/-- a row of ints -/
def I64 (w : World) (b n : Nat) (f : Nat → Nat) : Prop := w.rowIs b 3 n (fun j => .int .i64 (f j : Int))
theorem I64.set {w : World} {b n : Nat} {f : Nat → Nat} (h : I64 w b n f) (i x : Nat) : I64 (w.setCell ⟨b, i, none⟩ (.int .i64 x)) b n (fun j => if j = i then x else f j) := by
  refine (World.rowIs.set h i _).congr fun j _ => ?_
  show _ = Value.int .i64 ((if j = i then x else f j : Nat) : Int)
  split <;> rfl
theorem I64.setI {w : World} {b n : Nat} {f : Nat → Nat} (h : I64 w b n f) (i x : Nat) {v : Int} (hv : v = (x : Int)) : I64 (w.setCell ⟨b, i, none⟩ (.int .i64 v)) b n (fun j => if j = i then x else f j) := by
  subst hv; exact h.set i x
theorem I64.cellI {w : World} {b n : Nat} {f : Nat → Nat} (h : I64 w b n f) {i c : Nat} (hi : i < n) (hc : f i = c) : w.cell? ⟨b, i, none⟩ = some (.int .i64 (c : Int)) := by
  subst hc; exact World.rowIs.cell h hi
theorem I64.drew {w : World} {b n : Nat} {f : Nat → Nat} (h : I64 w b n f) : I64 w.drew b n f := h
theorem I64.congr {w : World} {b n : Nat} {f g : Nat → Nat} (h : I64 w b n f) (e : ∀ j, j < n → f j = g j) : I64 w b n g := World.rowIs.congr h fun j hj => by rw [e j hj]

def nats (ks : List (Int × Int)) : List (Nat × Nat) := ks.map fun p => (p.1.toNat, p.2.toNat)

/-- what is known of pair k, as natural numbers, in a later world -/
theorem key_at {w wr : World} {b o : Nat} {n k : Nat} {ks : List (Int × Int)} (hb : b < w.heap.size) (hcells : ∀ j (h : j < ks.length), w.cell? ⟨b, o + j * 2, none⟩ = some (.int .i32 ks[j].1) ∧ w.cell? ⟨b, o + j * 2 + 1, none⟩ = some (.int .i32 ks[j].2))
    (hok : ∀ p ∈ ks, Okp n p) (hk : k < ks.length) (hbel : Below w.heap.size w wr) :
    ∃ x y : Nat, x < n ∧ y < n ∧ wr.cell? ⟨b, o + k * 2, none⟩ = some (.int .i32 (x : Int)) ∧ wr.cell? ⟨b, o + k * 2 + 1, none⟩ = some (.int .i32 (y : Int)) ∧ Hid ((nats ks)[k]? = some (x, y)) := by
  obtain ⟨h1, h2, h3, h4⟩ := hok ks[k] (List.getElem_mem _)
  obtain ⟨c1, c2⟩ := hcells k hk
  refine ⟨ks[k].1.toNat, ks[k].2.toNat, by omega, by omega, ?_, ?_, ?_⟩
  · rw [hbel.cell (p := ⟨b, o + k * 2, none⟩) hb, c1, Int.toNat_of_nonneg h1]
  · rw [hbel.cell (p := ⟨b, o + k * 2 + 1, none⟩) hb, c2, Int.toNat_of_nonneg h3]
  · show _ = _
    simp [nats, List.getElem?_eq_getElem hk]
theorem half_take {l : List (Nat × Nat)} {k x y : Nat} (h : l[k]? = some (x, y)) : half (l.take (k + 1)) = half (l.take k) ++ [(x, y)] ++ [(y, x)] := by
  have hk := (List.getElem?_eq_some_iff.1 h).1
  have e := (List.getElem?_eq_some_iff.1 h).2
  rw [List.take_succ_eq_append_getElem hk, half_append, e]
  simp [half]
theorem half_take_len (l : List (Nat × Nat)) (k : Nat) (h : k ≤ l.length) : (half (l.take k)).length = 2 * k := by
  rw [half_len, List.length_take]; omega

theorem copy_step (f : Nat → Nat) (v j : Nat) : (if j = v then f v else if j < v then f j else 0) = if j < v + 1 then f j else 0 := by
  by_cases h1 : j = v
  · rw [if_pos h1, if_pos (by omega), h1]
  · by_cases h2 : j < v
    · rw [if_neg h1, if_pos h2, if_pos (by omega)]
    · rw [if_neg h1, if_neg h2, if_neg (by omega)]

theorem half_ok {n : Nat} {ks : List (Int × Int)} (hok : ∀ p ∈ ks, Okp n p) {x y : Nat} (h : (x, y) ∈ half (nats ks)) : x < n ∧ y < n := by
  have key : ∀ x y : Nat, (x, y) ∈ nats ks → x < n ∧ y < n := by
    intro x y h
    obtain ⟨p, hp, e⟩ := List.mem_map.1 h
    obtain ⟨h1, h2, h3, h4⟩ := hok p hp
    simp only [Prod.mk.injEq] at e
    omega
  rcases mem_half.1 h with h | h
  · exact key x y h
  · have := key y x h; exact ⟨this.2, this.1⟩
theorem lab_half {n : Nat} {ks : List (Int × Int)} (hok : ∀ p ∈ ks, Okp n p) {f : Nat → Nat} (h : IsLab n (fun x y => (x, y) ∈ half (nats ks)) f) : IsLab n (MergeA.Edge ks) f := by
  have e1 : ∀ x y : Nat, MergeA.Edge ks x y → (x, y) ∈ nats ks := by
    intro x y h
    exact List.mem_map.2 ⟨_, h, by simp⟩
  have e2 : ∀ x y : Nat, (x, y) ∈ nats ks → MergeA.Edge ks x y := by
    intro x y h
    obtain ⟨p, hp, e⟩ := List.mem_map.1 h
    obtain ⟨h1, h2, h3, h4⟩ := hok p hp
    simp only [Prod.mk.injEq] at e
    unfold MergeA.Edge
    rw [← e.1, ← e.2, Int.toNat_of_nonneg h1, Int.toNat_of_nonneg h3]
    exact hp
  refine ⟨h.1, fun x y e => h.2.1 x y (mem_half.2 (.inl (e1 x y e))), fun i hi g hg => h.2.2 i hi g fun x y e => ?_⟩
  rcases mem_half.1 e with e | e
  · exact hg x y (e2 x y e)
  · exact (hg y x (e2 y x e)).symm
theorem half_split {l : List (Nat × Nat)} {k x y : Nat} (h : l[k]? = some (x, y)) : half l = half (l.take k) ++ (x, y) :: (y, x) :: half (l.drop (k + 1)) := by
  have hk := (List.getElem?_eq_some_iff.1 h).1
  have e := (List.getElem?_eq_some_iff.1 h).2
  conv => lhs; rw [← List.take_append_drop k l, List.drop_eq_getElem_cons hk, e]
  rw [half_append]
  rfl
theorem par_cell {w : World} {b n : Nat} {f : Nat → Nat} (h : Par w b n f) {i c : Nat} (hi : i < n) (hc : f i = c) : w.cell? ⟨b, i, none⟩ = some (.int .i32 (c : Int)) := by
  subst hc; exact World.rowIs.cell h hi
/-- the neighbours up to j are named -/
def Named (A : Nat → Nat) (s s0 j : Nat) (seen : Nat → Bool) (L : Nat → Nat) : Prop := ∀ j', s0 ≤ j' → j' < j → seen (A j') = true ∧ L (A j') = s
theorem Named.old {A : Nat → Nat} {s s0 j u : Nat} {seen : Nat → Bool} {L : Nat → Nat} (h : Named A s s0 j seen L) (hu : A j = u) (h1 : seen u = true) (h2 : L u = s) : Named A s s0 (j + 1) seen L := by
  intro j' ha hb
  by_cases e : j' = j
  · subst e; rw [hu]; exact ⟨h1, h2⟩
  · exact h j' ha (by omega)
theorem Named.mark {A : Nat → Nat} {s s0 j u : Nat} {seen : Nat → Bool} {L : Nat → Nat} (h : Named A s s0 j seen L) (hu : A j = u) (hns : seen u = false) : Named A s s0 (j + 1) (fun v => if v = u then true else seen v) (fun v => if v = u then s else L v) := by
  intro j' ha hb
  show (if A j' = u then true else seen (A j')) = true ∧ (if A j' = u then s else L (A j')) = s
  by_cases e : j' = j
  · subst e; rw [if_pos hu, if_pos hu]; exact ⟨rfl, rfl⟩
  · obtain ⟨a, b⟩ := h j' ha (by omega)
    have hne : A j' ≠ u := by intro e2; rw [e2, hns] at a; cases a
    rw [if_neg hne, if_neg hne]; exact ⟨a, b⟩
theorem Par.setI {w : World} {b n : Nat} {f : Nat → Nat} (h : Par w b n f) (i x : Nat) : Par (w.setCell ⟨b, i, none⟩ (.int .i32 (x : Int))) b n (fun j => if j = i then x else f j) := h.set i x
theorem laid_room {l d e : List (Nat × Nat)} {n x y : Nat} {F A : Nat → Nat} (h : Laid l n d F A) (hl : l = d ++ (x, y) :: e) (hx : x < n) : F x < l.length := by
  have h1 := h.1 x hx
  have h2 := room hl
  have h3 := beg_succ l x
  have h4 := beg_le l (x + 1)
  omega

/-- the rows of the search: where each node's neighbours begin, the neighbours, the names, who is seen, the queue -/
structure Se (w wr : World) (b1 n M : Nat) (l : List (Nat × Nat)) (A : Nat → Nat) (seen : Nat → Bool) (L Q : Nat → Nat) : Prop where
  hb : w.heap.size < b1
  st : I64 wr w.heap.size (n + 1) (beg l)
  ad : Par wr (b1 + 1) M A
  la : Par wr (b1 + 2) n L
  se : wr.rowIs (b1 + 3) 4 n (fun j => .bool (seen j))
  qu : Par wr (b1 + 4) n Q
  be : Below w.heap.size w wr
theorem Se.setL {w wr : World} {b1 n M : Nat} {l : List (Nat × Nat)} {A : Nat → Nat} {seen : Nat → Bool} {L Q : Nat → Nat} (h : Se w wr b1 n M l A seen L Q) (i x : Nat) : Se w (wr.setCell ⟨b1 + 2, i, none⟩ (.int .i32 (x : Int))) b1 n M l A seen (fun j => if j = i then x else L j) Q := by
  have := h.hb
  exact ⟨h.hb, World.rowIs.setOther h.st (by show w.heap.size ≠ b1 + 2; omega) _, World.rowIs.setOther h.ad (by show b1 + 1 ≠ b1 + 2; omega) _, h.la.set i x, World.rowIs.setOther h.se (by show b1 + 3 ≠ b1 + 2; omega) _, World.rowIs.setOther h.qu (by show b1 + 4 ≠ b1 + 2; omega) _, h.be.setCell (by show w.heap.size ≤ b1 + 2; omega) _⟩
theorem Se.setQ {w wr : World} {b1 n M : Nat} {l : List (Nat × Nat)} {A : Nat → Nat} {seen : Nat → Bool} {L Q : Nat → Nat} (h : Se w wr b1 n M l A seen L Q) (i x : Nat) : Se w (wr.setCell ⟨b1 + 4, i, none⟩ (.int .i32 (x : Int))) b1 n M l A seen L (fun j => if j = i then x else Q j) := by
  have := h.hb
  exact ⟨h.hb, World.rowIs.setOther h.st (by show w.heap.size ≠ b1 + 4; omega) _, World.rowIs.setOther h.ad (by show b1 + 1 ≠ b1 + 4; omega) _, World.rowIs.setOther h.la (by show b1 + 2 ≠ b1 + 4; omega) _, World.rowIs.setOther h.se (by show b1 + 3 ≠ b1 + 4; omega) _, h.qu.set i x, h.be.setCell (by show w.heap.size ≤ b1 + 4; omega) _⟩
theorem Se.setS {w wr : World} {b1 n M : Nat} {l : List (Nat × Nat)} {A : Nat → Nat} {seen : Nat → Bool} {L Q : Nat → Nat} (h : Se w wr b1 n M l A seen L Q) (i : Nat) : Se w (wr.setCell ⟨b1 + 3, i, none⟩ (.bool true)) b1 n M l A (fun j => if j = i then true else seen j) L Q := by
  have := h.hb
  refine ⟨h.hb, World.rowIs.setOther h.st (by show w.heap.size ≠ b1 + 3; omega) _, World.rowIs.setOther h.ad (by show b1 + 1 ≠ b1 + 3; omega) _, World.rowIs.setOther h.la (by show b1 + 2 ≠ b1 + 3; omega) _, ?_, World.rowIs.setOther h.qu (by show b1 + 4 ≠ b1 + 3; omega) _, h.be.setCell (by show w.heap.size ≤ b1 + 3; omega) _⟩
  refine (World.rowIs.set h.se i _).congr fun j _ => ?_
  show _ = Value.bool (if j = i then true else seen j)
  split <;> rfl

theorem Se.start {w wr : World} {b1 n M : Nat} {l : List (Nat × Nat)} {A : Nat → Nat} (hb : w.heap.size < b1) (st : I64 wr w.heap.size (n + 1) (beg l)) (ad : Par wr (b1 + 1) M A) (be : Below w.heap.size w wr) (hsz : wr.heap.size = b1 + 2) :
    Se w (((wr.alloc (.cells (madeCells #[Value.int .i32 0] n) 21)).alloc (.cells (madeCells #[Value.bool false] n) 4)).alloc (.cells (madeCells #[Value.int .i32 0] n) 21)) b1 n M l A (fun _ => false) (fun _ => 0) (fun _ => 0) := by
  have s1 : (wr.alloc (.cells (madeCells #[Value.int .i32 0] n) 21)).heap.size = b1 + 3 := by simp [hsz]
  have s2 : ((wr.alloc (.cells (madeCells #[Value.int .i32 0] n) 21)).alloc (.cells (madeCells #[Value.bool false] n) 4)).heap.size = b1 + 4 := by simp [hsz]
  have r1 := World.rowIs_made wr (.int .i32 0) n 21
  rw [hsz] at r1
  have r2 := World.rowIs_made (wr.alloc (.cells (madeCells #[Value.int .i32 0] n) 21)) (.bool false) n 4
  rw [s1] at r2
  have r3 := World.rowIs_made ((wr.alloc (.cells (madeCells #[Value.int .i32 0] n) 21)).alloc (.cells (madeCells #[Value.bool false] n) 4)) (.int .i32 0) n 21
  rw [s2] at r3
  exact ⟨hb, World.rowIs.alloc (World.rowIs.alloc (World.rowIs.alloc st _) _) _, World.rowIs.alloc (World.rowIs.alloc (World.rowIs.alloc ad _) _) _, (r1.alloc _).alloc _, r2.alloc _, r3, ((be.alloc be.size _).alloc (by rw [s1]; omega) _).alloc (by rw [s2]; omega) _⟩

set_option maxRecDepth 100000 in
set_option maxHeartbeats 3200000 in
theorem bfs (n : Nat) (a : Option Addr) (len cap : Nat) (ks : List (Int × Int)) (w : World) (hn : n ≤ 65536) (hl : len ≤ 65536) (hk : KeysIs w a len ks) (hok : ∀ p ∈ ks, Okp n p) :
    Calls Try.prog 13 #[.int .i64 n, .slice a len cap] w fun e w' => ∃ g f, e = .returned (.slice (some ⟨g, 0, none⟩) n n) ∧ Par w' g n f ∧ IsLab n (MergeA.Edge ks) f ∧ Below w.heap.size w w' := by
  have hmk1 := fun W => run_make_row' (P := Try.prog) 33 3 (.int .i64 0) 8 Try.underlying33 info3 rfl .i64 .i64 (n + 1) (by omega) (by omega) W
  rw [show ((n + 1 : Nat) : Int) = (n : Int) + 1 by omega] at hmk1
  go_enter Try.func13, Try.ntmps13
  go_wp2_with fail
  have hrow0 : I64 (w.alloc (.cells (madeCells #[Value.int .i64 0] (n + 1)) 3)) w.heap.size (n + 1) (cnts (half ((nats ks).take 0))) := (World.rowIs_made w (.int .i64 0) (n + 1) 3).congr fun j _ => by simp [cnts, half, deg]
  have hbel0 : Below w.heap.size w (w.alloc (.cells (madeCells #[Value.int .i64 0] (n + 1)) 3)) := (Below.refl _ _).alloc (Nat.le_refl _) _
  generalize w.alloc (.cells (madeCells #[Value.int .i64 0] (n + 1)) 3) = W at *
  have hnl : (nats ks).length = len := by simp [nats]; exact hk.1
  clear hmk1
  go_loopw [6] (fun i wr => ∃ k : Nat, k ≤ len ∧ i = .int .i64 k ∧ I64 wr w.heap.size (n + 1) (cnts (half ((nats ks).take k))) ∧ Below w.heap.size w wr) (fun i _ => len - (intOf i).toNat)
  case atStart => exact ⟨0, Nat.zero_le _, rfl, hrow0, hbel0⟩
  case round =>
    clear hrow0 hbel0
    obtain ⟨k, hk', rfl, hrow, hbel⟩ := hrel
    by_cases hlt : k < len
    · obtain ⟨hkl, hwf, _, hpos⟩ := hk
      obtain ⟨b, o, rfl, hb, hcells⟩ := hpos (by omega)
      obtain ⟨x, y, hx, hy, hd0, hd1, HXY⟩ := key_at (k := k) hb hcells hok (by omega) hbel
      have hcl := half_take_len (nats ks) k (by omega)
      have HT : Hid (half ((nats ks).take (k + 1)) = half ((nats ks).take k) ++ [(x, y)] ++ [(y, x)]) := half_take HXY.out
      generalize half ((nats ks).take k) = l at *
      obtain ⟨c, HC⟩ : ∃ c, Hid (cnts l (x + 1) = c) := ⟨_, rfl⟩
      obtain ⟨c', HC'⟩ : ∃ c, Hid (cnts (l ++ [(x, y)]) (y + 1) = c) := ⟨_, rfl⟩
      have hcb : c ≤ 2 * k := by rw [← HC.out, ← hcl]; exact cnts_le _ _
      have hcb' : c' ≤ 2 * k + 1 := by rw [← HC'.out]; have := cnts_le (l ++ [(x, y)]) (y + 1); rw [List.length_append, hcl] at this; exact this
      have hc1 := hrow.cellI (i := x + 1) (by omega) HC.out
      have hf1 := World.rowIs.frozen hrow (x + 1)
      have hrow1 : I64 (wr.setCell ⟨w.heap.size, x + 1, none⟩ (.int .i64 ((c : Int) + 1))) w.heap.size (n + 1) (cnts (l ++ [(x, y)])) := (I64.setI hrow (x + 1) (c + 1) (by omega)).congr fun j _ => by rw [← HC.out]; exact cnts_snoc l x y j
      have hbel1 := hbel.setCell (p := ⟨w.heap.size, x + 1, none⟩) (Nat.le_refl _) (.int .i64 ((c : Int) + 1))
      have hd2 : (wr.setCell ⟨w.heap.size, x + 1, none⟩ (.int .i64 ((c : Int) + 1))).cell? ⟨b, o + k * 2 + 1, none⟩ = some (.int .i32 (y : Int)) := by
        rw [hbel1.cell (p := ⟨b, o + k * 2 + 1, none⟩) hb, ← hbel.cell (p := ⟨b, o + k * 2 + 1, none⟩) hb]; exact hd1
      have hc2 := hrow1.cellI (i := y + 1) (by omega) HC'.out
      have hf2 := World.rowIs.frozen hrow1 (y + 1)
      have hrow2 : I64 ((wr.setCell ⟨w.heap.size, x + 1, none⟩ (.int .i64 ((c : Int) + 1))).setCell ⟨w.heap.size, y + 1, none⟩ (.int .i64 ((c' : Int) + 1))) w.heap.size (n + 1) (cnts (l ++ [(x, y)] ++ [(y, x)])) := (I64.setI hrow1 (y + 1) (c' + 1) (by omega)).congr fun j _ => by rw [← HC'.out]; exact cnts_snoc _ y x j
      have hbel2 := hbel1.setCell (p := ⟨w.heap.size, y + 1, none⟩) (Nat.le_refl _) (.int .i64 ((c' : Int) + 1))
      clear hrow1 hbel1 hcells hpos hwf hok
      go_wp2_with fail
      go_roundw
      case rel => exact ⟨k + 1, by omega, by go_num, by rw [HT.out]; exact hrow2, hbel2⟩
      case measure => simp [intOf]; omega
    · obtain rfl : len = k := by omega
      rw [List.take_of_length_le (by omega)] at hrow
      have hll : (half (nats ks)).length = 2 * len := by rw [half_len]; omega
      generalize hlE : half (nats ks) = l at *
      have HL : Hid (half (nats ks) = l) := hlE
      clear hlE
      have hrow1 : I64 wr w.heap.size (n + 1) (sums l 0) := hrow.congr fun j _ => (sums_zero l j).symm
      clear hrow
      go_wp2_with fail
      go_loopw [7] (fun i wr => ∃ v : Nat, v ≤ n ∧ i = .int .i64 v ∧ I64 wr w.heap.size (n + 1) (sums l v) ∧ Below w.heap.size w wr) (fun i _ => n - (intOf i).toNat)
      case atStart => exact ⟨0, Nat.zero_le _, rfl, hrow1, hbel⟩
      case round =>
        clear hrow1 hbel
        obtain ⟨v, hv, rfl, hrow, hbel⟩ := hrel
        by_cases hlt : v < n
        · obtain ⟨c, HC⟩ : ∃ c, Hid (sums l v (v + 1) = c) := ⟨_, rfl⟩
          obtain ⟨c', HC'⟩ : ∃ c, Hid (sums l v v = c) := ⟨_, rfl⟩
          have hcb : c ≤ 131072 := by have := sums_le l v (v + 1); rw [← HC.out]; omega
          have hcb' : c' ≤ 131072 := by have := sums_le l v v; rw [← HC'.out]; omega
          have hc1 := hrow.cellI (i := v + 1) (by omega) HC.out
          have hf1 := World.rowIs.frozen hrow (v + 1)
          have hc0 := hrow.cellI (i := v) (by omega) HC'.out
          have hw1 : IntKind.i64.wrap ((v : Int) + 1) = (v : Int) + 1 := wrap_i64 (by omega) (by omega)
          have hw2 : IntKind.i64.wrap ((c : Int) + (c' : Int)) = (c : Int) + (c' : Int) := wrap_i64 (by omega) (by omega)
          have hrow2 : I64 (wr.setCell ⟨w.heap.size, v + 1, none⟩ (.int .i64 ((c : Int) + (c' : Int)))) w.heap.size (n + 1) (sums l (v + 1)) := (I64.setI hrow (v + 1) (c + c') (by omega)).congr fun j _ => by rw [← HC.out, ← HC'.out]; exact sums_step l v j
          have hbel2 := hbel.setCell (p := ⟨w.heap.size, v + 1, none⟩) (Nat.le_refl _) (.int .i64 ((c : Int) + (c' : Int)))
          clear hk hok
          go_wp2_with fail
          go_region
          go_wp2
          go_roundw
          case rel => exact ⟨v + 1, by omega, by go_num, hrow2.drew, hbel2.drew⟩
          case measure => simp [intOf]; omega
        · obtain rfl : n = v := by omega
          have hrow2 : I64 wr w.heap.size (n + 1) (beg l) := hrow.congr fun j hj => by unfold sums; rw [if_pos (by omega)]
          clear hrow
          have hmk2 := fun W => run_make_row' (P := Try.prog) 33 3 (.int .i64 0) 8 Try.underlying33 info3 rfl .i64 .i64 n (by omega) (by omega) W
          go_wp2_with fail
          have hB1 : w.heap.size < wr.heap.size := World.rowIs.lt hrow2
          have hrowA : I64 (wr.alloc (.cells (madeCells #[Value.int .i64 0] n) 3)) w.heap.size (n + 1) (beg l) := World.rowIs.alloc hrow2 _
          have hrowF : I64 (wr.alloc (.cells (madeCells #[Value.int .i64 0] n) 3)) wr.heap.size n (fun j => if j < 0 then beg l j else 0) := (World.rowIs_made wr (.int .i64 0) n 3).congr fun j _ => by simp
          have hbelA := hbel.alloc hbel.size (.cells (madeCells #[Value.int .i64 0] n) 3)
          have hszA : (wr.alloc (.cells (madeCells #[Value.int .i64 0] n) 3)).heap.size = wr.heap.size + 1 := by simp
          generalize wr.alloc (.cells (madeCells #[Value.int .i64 0] n) 3) = wA at *
          generalize wr.heap.size = b1 at *
          clear hrow2 hbel hmk2
          go_loopw [9] (fun i wr => ∃ v : Nat, v ≤ n ∧ i = .int .i64 v ∧ I64 wr w.heap.size (n + 1) (beg l) ∧ I64 wr b1 n (fun j => if j < v then beg l j else 0) ∧ Below w.heap.size w wr ∧ wr.heap.size = b1 + 1) (fun i _ => n - (intOf i).toNat)
          case atStart => exact ⟨0, Nat.zero_le _, rfl, hrowA, hrowF, hbelA, hszA⟩
          case round =>
            clear hrowA hrowF hbelA hszA
            obtain ⟨v, hv, rfl, hrowA, hrowF, hbel, hsz⟩ := hrel
            by_cases hlt : v < n
            · obtain ⟨c, HC⟩ : ∃ c, Hid (beg l v = c) := ⟨_, rfl⟩
              have hc0 := hrowA.cellI (i := v) (by omega) HC.out
              have hc1 := World.rowIs.cell hrowF hlt
              have hf1 := World.rowIs.frozen hrowF v
              have hrowF2 : I64 (wr.setCell ⟨b1, v, none⟩ (.int .i64 (c : Int))) b1 n (fun j => if j < v + 1 then beg l j else 0) := (I64.set hrowF v c).congr fun j _ => by rw [← HC.out]; exact copy_step _ v j
              have hrowA2 : I64 (wr.setCell ⟨b1, v, none⟩ (.int .i64 (c : Int))) w.heap.size (n + 1) (beg l) := World.rowIs.setOther hrowA (by show w.heap.size ≠ b1; omega) _
              have hbel2 := hbel.setCell (p := ⟨b1, v, none⟩) (Nat.le_of_lt hB1) (.int .i64 (c : Int))
              have hsz2 : (wr.setCell ⟨b1, v, none⟩ (.int .i64 (c : Int))).heap.size = b1 + 1 := by rw [← hsz]; simp [World.setCell]
              clear hk hok hsz
              go_wp2_with fail
              go_roundw
              case rel => exact ⟨v + 1, by omega, by go_num, hrowA2, hrowF2, hbel2, hsz2⟩
              case measure => simp [intOf]; omega
            · obtain rfl : n = v := by omega
              have hrowF2 : I64 wr b1 n (beg l) := hrowF.congr fun j hj => if_pos hj
              have hbn : beg l n = 2 * len := by rw [beg_all fun p hp => (half_ok hok (x := p.1) (y := p.2) (by rw [HL.out]; exact hp)).1]; exact hll
              obtain ⟨M, hM⟩ : ∃ M, M = 2 * len := ⟨_, rfl⟩
              have hcn := hrowA.cellI (i := n) (by omega) (hbn.trans hM.symm)
              have hmk3 := fun W => run_make_row' (P := Try.prog) 27 21 (.int .i32 0) 4 Try.underlying27 info21 rfl .i64 .i64 M (by omega) (by omega) W
              have HM : Hid (M = 2 * len) := hM
              have hMb : M ≤ 131072 := by omega
              rw [← hM] at hll
              clear hrowF hM hbn
              go_wp2_with fail
              have hrowS : I64 (wr.alloc (.cells (madeCells #[Value.int .i32 0] M) 21)) w.heap.size (n + 1) (beg l) := World.rowIs.alloc hrowA _
              have hrowF : I64 (wr.alloc (.cells (madeCells #[Value.int .i32 0] M) 21)) b1 n (beg l) := World.rowIs.alloc hrowF2 _
              have hrowD : Par (wr.alloc (.cells (madeCells #[Value.int .i32 0] M) 21)) (b1 + 1) M (fun _ => 0) := by rw [← hsz]; exact World.rowIs_made wr (.int .i32 0) M 21
              have hbelA := hbel.alloc hbel.size (.cells (madeCells #[Value.int .i32 0] M) 21)
              have hszA : (wr.alloc (.cells (madeCells #[Value.int .i32 0] M) 21)).heap.size = b1 + 2 := by simp [hsz]
              generalize wr.alloc (.cells (madeCells #[Value.int .i32 0] M) 21) = wA at *
              clear hrowA hrowF2 hbel hmk3 hcn hsz
              go_loopw [11, 12, 13] (fun i _ _ wr => ∃ k : Nat, ∃ F A : Nat → Nat, k ≤ len ∧ i = .int .i64 k ∧ I64 wr w.heap.size (n + 1) (beg l) ∧ I64 wr b1 n F ∧ Par wr (b1 + 1) M A ∧ Hid (Laid l n (half ((nats ks).take k)) F A) ∧ Below w.heap.size w wr ∧ wr.heap.size = b1 + 2) (fun i _ _ _ => len - (intOf i).toNat)
              case atStart => exact ⟨0, _, _, Nat.zero_le _, rfl, hrowS, hrowF, hrowD, Laid.start l n _ _ fun v _ => rfl, hbelA, hszA⟩
              case round =>
                clear hrowS hrowF hrowD hbelA hszA
                obtain ⟨k, F, A, hk', rfl, hrowS, hrowF, hrowD, HLd, hbel, hsz⟩ := hrel
                by_cases hlt : k < len
                · obtain ⟨hkl, hwf, _, hpos⟩ := hk
                  obtain ⟨b, o, rfl, hb, hcells⟩ := hpos (by omega)
                  obtain ⟨x, y, hx, hy, hd0, hd1, HXY⟩ := key_at (k := k) hb hcells hok (by omega) hbel
                  have HT : Hid (half ((nats ks).take (k + 1)) = half ((nats ks).take k) ++ [(x, y)] ++ [(y, x)]) := half_take HXY.out
                  have HS : Hid (l = half ((nats ks).take k) ++ (x, y) :: (y, x) :: half ((nats ks).drop (k + 1))) := by show _ = _; rw [← HL.out]; exact half_split HXY.out
                  have HS2 : Hid (l = (half ((nats ks).take k) ++ [(x, y)]) ++ (y, x) :: half ((nats ks).drop (k + 1))) := by show _ = _; rw [List.append_assoc]; exact HS.out
                  have HL1 : Hid (Laid l n (half ((nats ks).take k) ++ [(x, y)]) (fun j => if j = x then F x + 1 else F j) (fun j => if j = F x then y else A j)) := HLd.out.step HS.out hx
                  obtain ⟨fx, HFx⟩ : ∃ c, Hid (F x = c) := ⟨_, rfl⟩
                  rw [HFx.out] at HL1
                  obtain ⟨F1, HF1⟩ : ∃ f : Nat → Nat, Hid ((fun j => if j = x then fx + 1 else F j) = f) := ⟨_, rfl⟩
                  obtain ⟨A1, HA1⟩ : ∃ f : Nat → Nat, Hid ((fun j => if j = fx then y else A j) = f) := ⟨_, rfl⟩
                  rw [HF1.out, HA1.out] at HL1
                  have HL2 : Hid (Laid l n (half ((nats ks).take k) ++ [(x, y)] ++ [(y, x)]) (fun j => if j = y then F1 y + 1 else F1 j) (fun j => if j = F1 y then x else A1 j)) := HL1.out.step HS2.out hy
                  obtain ⟨fy, HFy⟩ : ∃ c, Hid (F1 y = c) := ⟨_, rfl⟩
                  rw [HFy.out] at HL2
                  have hfx : fx < M := by rw [← HFx.out, ← hll]; exact laid_room HLd.out HS.out hx
                  have hfy : fy < M := by rw [← HFy.out, ← hll]; exact laid_room HL1.out HS2.out hy
                  -- the four stores
                  have f0 := hrowF.cellI hx HFx.out
                  have a0 := World.rowIs.cell hrowD hfx
                  have z0 := World.rowIs.frozen hrowD fx
                  have z3 := World.rowIs.frozen hrowF y
                  have hF1 : I64 (wr.setCell ⟨b1 + 1, fx, none⟩ (.int .i32 (y : Int))) b1 n F := World.rowIs.setOther hrowF (by show b1 ≠ b1 + 1; omega) _
                  have hD1 : Par (wr.setCell ⟨b1 + 1, fx, none⟩ (.int .i32 (y : Int))) (b1 + 1) M A1 := by rw [← HA1.out]; exact hrowD.set fx y
                  have hS1 : I64 (wr.setCell ⟨b1 + 1, fx, none⟩ (.int .i32 (y : Int))) w.heap.size (n + 1) (beg l) := World.rowIs.setOther hrowS (by show w.heap.size ≠ b1 + 1; omega) _
                  have f1 := hF1.cellI hx HFx.out
                  have z1 := World.rowIs.frozen hF1 x
                  have hF2 : I64 ((wr.setCell ⟨b1 + 1, fx, none⟩ (.int .i32 (y : Int))).setCell ⟨b1, x, none⟩ (.int .i64 ((fx : Int) + 1))) b1 n F1 := by rw [← HF1.out]; exact I64.setI hF1 x (fx + 1) (by omega)
                  have hD2 : Par ((wr.setCell ⟨b1 + 1, fx, none⟩ (.int .i32 (y : Int))).setCell ⟨b1, x, none⟩ (.int .i64 ((fx : Int) + 1))) (b1 + 1) M A1 := World.rowIs.setOther hD1 (by show b1 + 1 ≠ b1; omega) _
                  have hS2 : I64 ((wr.setCell ⟨b1 + 1, fx, none⟩ (.int .i32 (y : Int))).setCell ⟨b1, x, none⟩ (.int .i64 ((fx : Int) + 1))) w.heap.size (n + 1) (beg l) := World.rowIs.setOther hS1 (by show w.heap.size ≠ b1; omega) _
                  have f2 := hF2.cellI hy HFy.out
                  have a2 := World.rowIs.cell hD2 hfy
                  have z2 := World.rowIs.frozen hD2 fy
                  have hbel2 := ((hbel.setCell (p := ⟨b1 + 1, fx, none⟩) (by show w.heap.size ≤ b1 + 1; omega) (.int .i32 (y : Int))).setCell (p := ⟨b1, x, none⟩) (by show w.heap.size ≤ b1; omega) (.int .i64 ((fx : Int) + 1)))
                  have hsz2 : ((wr.setCell ⟨b1 + 1, fx, none⟩ (.int .i32 (y : Int))).setCell ⟨b1, x, none⟩ (.int .i64 ((fx : Int) + 1))).heap.size = b1 + 2 := by rw [← hsz]; simp [World.setCell]
                  clear hcells hpos hwf hok hF1 hD1 hS1 hrowS hrowF hrowD hbel hsz
                  generalize hw2 : (wr.setCell ⟨b1 + 1, fx, none⟩ (.int .i32 (y : Int))).setCell ⟨b1, x, none⟩ (.int .i64 ((fx : Int) + 1)) = w2 at hF2 hD2 hS2 hbel2 hsz2
                  have hF4 : I64 ((w2.setCell ⟨b1 + 1, fy, none⟩ (.int .i32 (x : Int))).setCell ⟨b1, y, none⟩ (.int .i64 ((fy : Int) + 1))) b1 n (fun j => if j = y then fy + 1 else F1 j) := I64.setI (World.rowIs.setOther hF2 (by show b1 ≠ b1 + 1; omega) _) y (fy + 1) (by omega)
                  have hD4 : Par ((w2.setCell ⟨b1 + 1, fy, none⟩ (.int .i32 (x : Int))).setCell ⟨b1, y, none⟩ (.int .i64 ((fy : Int) + 1))) (b1 + 1) M (fun j => if j = fy then x else A1 j) := World.rowIs.setOther (hD2.set fy x) (by show b1 + 1 ≠ b1; omega) _
                  have hS4 : I64 ((w2.setCell ⟨b1 + 1, fy, none⟩ (.int .i32 (x : Int))).setCell ⟨b1, y, none⟩ (.int .i64 ((fy : Int) + 1))) w.heap.size (n + 1) (beg l) := World.rowIs.setOther (World.rowIs.setOther hS2 (by show w.heap.size ≠ b1 + 1; omega) _) (by show w.heap.size ≠ b1; omega) _
                  have hbel4 := (hbel2.setCell (p := ⟨b1 + 1, fy, none⟩) (by show w.heap.size ≤ b1 + 1; omega) (.int .i32 (x : Int))).setCell (p := ⟨b1, y, none⟩) (by show w.heap.size ≤ b1; omega) (.int .i64 ((fy : Int) + 1))
                  have hsz4 : ((w2.setCell ⟨b1 + 1, fy, none⟩ (.int .i32 (x : Int))).setCell ⟨b1, y, none⟩ (.int .i64 ((fy : Int) + 1))).heap.size = b1 + 2 := by rw [← hsz2]; simp [World.setCell]
                  rw [← hw2] at hF4 hD4 hS4 hbel4 hsz4
                  have R : ∃ F A : Nat → Nat, I64 ((((wr.setCell ⟨b1 + 1, fx, none⟩ (.int .i32 (y : Int))).setCell ⟨b1, x, none⟩ (.int .i64 ((fx : Int) + 1))).setCell ⟨b1 + 1, fy, none⟩ (.int .i32 (x : Int))).setCell ⟨b1, y, none⟩ (.int .i64 ((fy : Int) + 1))) w.heap.size (n + 1) (beg l) ∧ I64 ((((wr.setCell ⟨b1 + 1, fx, none⟩ (.int .i32 (y : Int))).setCell ⟨b1, x, none⟩ (.int .i64 ((fx : Int) + 1))).setCell ⟨b1 + 1, fy, none⟩ (.int .i32 (x : Int))).setCell ⟨b1, y, none⟩ (.int .i64 ((fy : Int) + 1))) b1 n F ∧ Par ((((wr.setCell ⟨b1 + 1, fx, none⟩ (.int .i32 (y : Int))).setCell ⟨b1, x, none⟩ (.int .i64 ((fx : Int) + 1))).setCell ⟨b1 + 1, fy, none⟩ (.int .i32 (x : Int))).setCell ⟨b1, y, none⟩ (.int .i64 ((fy : Int) + 1))) (b1 + 1) M A ∧ Hid (Laid l n (half ((nats ks).take (k + 1))) F A) := ⟨_, _, hS4, hF4, hD4, by rw [HT.out]; exact HL2⟩
                  have HR := (show Hid _ from R)
                  clear R hF4 hD4 hS4 hF2 hD2 hS2 hbel2 hsz2 hw2 HL2 HL1 HT HS HS2 HXY HF1 HA1 HFy HFx
                  go_wp2_with fail
                  obtain ⟨F', A', r1, r2, r3, r4⟩ := HR.out
                  go_roundw
                  case rel => first | exact ⟨k + 1, F', A', by omega, by go_num, r1, r2, r3, r4, hbel4, hsz4⟩ | ((repeat apply Exists.intro); exact ⟨⟨k + 1, F', A', by omega, by go_num, r1, r2, r3, r4, hbel4, hsz4⟩, rfl⟩)
                  case measure => simp [intOf]; omega
                · obtain rfl : len = k := by omega
                  have HAd : Hid (Adj l n A) := by
                    have h := HLd.out
                    rw [List.take_of_length_le (by omega), HL.out] at h
                    exact h.done
                  have hlok : ∀ x y, (x, y) ∈ l → x < n ∧ y < n := fun x y h => half_ok hok (by rw [HL.out]; exact h)
                  have hmk4 := fun W => run_make_row' (P := Try.prog) 27 21 (.int .i32 0) 4 Try.underlying27 info21 rfl .i64 .i64 n (by omega) (by omega) W
                  have hmk5 := fun W => run_make_row' (P := Try.prog) 53 4 (.bool false) 1 Try.underlying53 info4 rfl .i64 .i64 n (by omega) (by omega) W
                  have hse0 := Se.start hB1 hrowS hrowD hbel hsz
                  have hsym : ∀ x y, (x, y) ∈ l → (y, x) ∈ l := fun x y h => by rw [← HL.out] at h ⊢; exact mem_half.2 ((mem_half.1 h).symm)
                  have HEdge : Hid (∀ f, IsLab n (fun x y => (x, y) ∈ l) f → IsLab n (MergeA.Edge ks) f) := fun f h => lab_half hok (by rw [HL.out]; exact h)
                  clear hrowF HLd hk hok
                  go_wp2_with fail
                  rw [show b1 + 2 + 1 + 1 = b1 + 4 from rfl, show b1 + 2 + 1 = b1 + 3 from rfl]
                  clear hmk4 hmk5 hrowS hrowD hbel hsz
                  generalize ((wr.alloc (.cells (madeCells #[Value.int .i32 0] n) 21)).alloc (.cells (madeCells #[Value.bool false] n) 4)).alloc (.cells (madeCells #[Value.int .i32 0] n) 21) = wB at hse0 ⊢
                  go_loopw [17] (fun i wr => ∃ s : Nat, ∃ seen : Nat → Bool, ∃ L Q : Nat → Nat, s ≤ n ∧ i = .int .i64 s ∧ Se w wr b1 n M l A seen L Q ∧ Hid (Out n l s seen L)) (fun i _ => n - (intOf i).toNat)
                  case atStart => exact ⟨0, _, _, _, Nat.zero_le _, rfl, hse0, Out.start n l _ _ fun _ _ => rfl⟩
                  case round =>
                    clear hse0
                    obtain ⟨s, seen, L, Q, hs, rfl, hse, HO⟩ := hrel
                    by_cases hlt : s < n
                    · have hcs := World.rowIs.cell hse.se hlt
                      by_cases hsn : seen s = true
                      · have HO2 : Hid (Out n l (s + 1) seen L) := HO.out.skip hsn
                        go_wp2_with fail
                        go_roundw
                        case rel => exact ⟨s + 1, seen, L, Q, by omega, by go_num, hse, HO2⟩
                        case measure => simp [intOf]; omega
                      · have hsf : seen s = false := by simpa using hsn
                        clear hsn
                        have hwr : IntKind.i32.wrap (s : Int) = (s : Int) := wrap_i32 (by omega) (by omega)
                        have q1 := World.rowIs.frozen hse.se s
                        have c2 := World.rowIs.cell hse.la hlt
                        have q2 := World.rowIs.frozen hse.la s
                        have c3 := World.rowIs.cell hse.qu (show 0 < n by omega)
                        have q3 := World.rowIs.frozen hse.qu 0
                        have hse1 := ((hse.setS s).setL s s).setQ 0 s
                        have HI : Hid (In n l s seen L (fun v => if v = s then true else seen v) (fun v => if v = s then s else L v) (fun i => if i = 0 then s else Q i) 1 0) := In.start hlt hsf
                        go_wp2_with fail
                        generalize ((wr.setCell ⟨b1 + 3, s, none⟩ (.bool true)).setCell ⟨b1 + 2, s, none⟩ (.int .i32 (s : Int))).setCell ⟨b1 + 4, 0, none⟩ (.int .i32 (s : Int)) = wC at hse1 ⊢
                        clear hcs q1 c2 q2 c3 q3 hse
                        go_loopw [18, 19] (fun tl hd wr => ∃ tail head : Nat, ∃ seen' : Nat → Bool, ∃ L' Q' : Nat → Nat, tail ≤ n ∧ tl = .int .i64 tail ∧ hd = .int .i64 head ∧ Se w wr b1 n M l A seen' L' Q' ∧ Hid (In n l s seen L seen' L' Q' tail head)) (fun _ hd _ => n - (intOf hd).toNat)
                        case atStart => exact ⟨1, 0, _, _, _, by omega, rfl, rfl, hse1, HI⟩
                        case round =>
                          clear hse1 HI
                          obtain ⟨tail, head, seen', L', Q', htn, rfl, rfl, hse, HI⟩ := hrel
                          have hht := HI.out.2.2.2.2.2.2
                          by_cases hlt2 : head < tail
                          · obtain ⟨v, HV⟩ : ∃ v, Hid (Q' head = v) := ⟨_, rfl⟩
                            have hvn : v < n := by rw [← HV.out]; exact (HI.out.2.1 head hlt2).1
                            obtain ⟨s0, HS0⟩ : ∃ c, Hid (beg l v = c) := ⟨_, rfl⟩
                            obtain ⟨e0, HE0⟩ : ∃ c, Hid (beg l (v + 1) = c) := ⟨_, rfl⟩
                            have hse0 : s0 ≤ e0 := by rw [← HS0.out, ← HE0.out]; exact beg_mono l (by omega)
                            have heM : e0 ≤ M := by rw [← HE0.out, ← hll]; exact beg_le l _
                            have d1 := par_cell hse.qu (show head < n by omega) HV.out
                            have d2 := hse.st.cellI (i := v) (by omega) HS0.out
                            have HN : Hid (Named A s s0 s0 seen' L') := fun j' h1 h2 => by omega
                            go_wp2_with fail
                            go_loopw [18, 21] (fun tl jj wr => ∃ tail j : Nat, ∃ seen' : Nat → Bool, ∃ L' Q' : Nat → Nat, tail ≤ n ∧ s0 ≤ j ∧ j ≤ e0 ∧ head < tail ∧ tl = .int .i64 tail ∧ jj = .int .i64 j ∧ Se w wr b1 n M l A seen' L' Q' ∧ Hid (In n l s seen L seen' L' Q' tail head) ∧ Hid (Q' head = v) ∧ Hid (Named A s s0 j seen' L')) (fun _ jj _ => e0 - (intOf jj).toNat)
                            case atStart => exact ⟨tail, s0, seen', L', Q', htn, Nat.le_refl _, hse0, hlt2, rfl, rfl, hse, HI, HV, HN⟩
                            case round =>
                              clear HI HV HN d1 d2 hse hlt2 htn hht
                              obtain ⟨tail, j, seen', L', Q', htn, hj1, hj2, hlt2, rfl, rfl, hse, HI, HV, HN⟩ := hrel
                              have d3 := hse.st.cellI (i := v + 1) (by omega) HE0.out
                              by_cases hje : j < e0
                              · obtain ⟨u, HU⟩ : ∃ c, Hid (A j = c) := ⟨_, rfl⟩
                                have HVU : Hid ((v, u) ∈ l) := by
                                  have := HAd.out.1 v hvn j (by rw [HS0.out]; exact hj1) (by rw [HE0.out]; exact hje)
                                  rw [HU.out] at this; exact this
                                have hun : u < n := (hlok v u HVU.out).2
                                have d4 := par_cell hse.ad (show j < M by omega) HU.out
                                have d5 := World.rowIs.cell hse.se hun
                                by_cases hsu : seen' u = true
                                · have HN2 : Hid (Named A s s0 (j + 1) seen' L') := HN.out.old HU.out hsu (HI.out.old HO.out hsym hun hsu hlt2 (by rw [HV.out]; exact HVU.out))
                                  go_wp2_with fail
                                  go_roundw
                                  case rel => first | exact ⟨tail, j + 1, seen', L', Q', htn, by omega, by omega, hlt2, rfl, by go_num, hse, HI, HV, HN2⟩ | ((repeat apply Exists.intro); exact ⟨⟨tail, j + 1, seen', L', Q', htn, by omega, by omega, hlt2, rfl, by go_num, hse, HI, HV, HN2⟩, rfl⟩)
                                  case measure => simp [intOf]; omega
                                · have hsf2 : seen' u = false := by simpa using hsu
                                  clear hsu
                                  have htl : tail < n := HI.out.tail_lt hun hsf2
                                  have HN2 : Hid (Named A s s0 (j + 1) (fun x => if x = u then true else seen' x) (fun x => if x = u then s else L' x)) := HN.out.mark HU.out hsf2
                                  have HI2 : Hid (In n l s seen L (fun x => if x = u then true else seen' x) (fun x => if x = u then s else L' x) (fun i => if i = tail then u else Q' i) (tail + 1) head) := HI.out.mark hun hsf2 hlt2 (by rw [HV.out]; exact HVU.out)
                                  have HV2 : Hid ((fun i => if i = tail then u else Q' i) head = v) := by show (if head = tail then u else Q' head) = v; rw [if_neg (by omega)]; exact HV.out
                                  have q1 := World.rowIs.frozen hse.se u
                                  have c2 := World.rowIs.cell hse.la hun
                                  have q2 := World.rowIs.frozen hse.la u
                                  have c3 := World.rowIs.cell hse.qu htl
                                  have q3 := World.rowIs.frozen hse.qu tail
                                  have hse2 := ((hse.setS u).setL u s).setQ tail u
                                  go_wp2_with fail
                                  go_roundw
                                  case rel => first | exact ⟨tail + 1, j + 1, _, _, _, by omega, by omega, by omega, by omega, by go_num, by go_num, hse2, HI2, HV2, HN2⟩ | ((repeat apply Exists.intro); exact ⟨⟨tail + 1, j + 1, _, _, _, by omega, by omega, by omega, by omega, by go_num, by go_num, hse2, HI2, HV2, HN2⟩, rfl⟩)
                                  case measure => simp [intOf]; omega
                              · have HI2 : Hid (In n l s seen L seen' L' Q' tail (head + 1)) := HI.out.next hlt2 fun u hu => by
                                  rw [HV.out] at hu
                                  obtain ⟨j', h1, h2, h3⟩ := HAd.out.2 v u hu hvn
                                  rw [HS0.out] at h1
                                  rw [HE0.out] at h2
                                  have := HN.out j' h1 (by omega)
                                  rw [h3] at this
                                  exact this
                                go_wp2_with fail
                                go_roundw
                                case rel => first | exact ⟨tail, head + 1, seen', L', Q', htn, rfl, by go_num, hse, HI2⟩ | ((repeat apply Exists.intro); exact ⟨⟨tail, head + 1, seen', L', Q', htn, rfl, by go_num, hse, HI2⟩, rfl⟩)
                                case measure => simp [intOf]; omega
                          · obtain rfl : head = tail := by omega
                            have HO2 : Hid (Out n l (s + 1) seen' L') := HI.out.done HO.out hlok
                            go_wp2_with fail
                            go_roundw
                            case rel => first | exact ⟨s + 1, seen', L', Q', by omega, by go_num, hse, HO2⟩ | ((repeat apply Exists.intro); exact ⟨⟨s + 1, seen', L', Q', by omega, by go_num, hse, HO2⟩, rfl⟩)
                            case measure => simp [intOf]; omega
                    · obtain rfl : n = s := by omega
                      have HLab : Hid (IsLab n (MergeA.Edge ks) L) := HEdge.out L (HO.out.lab hlok)
                      go_wp2
                      go_ret
                      exact ⟨b1 + 2, L, rfl, hse.la, HLab.out, hse.be⟩

end Go.Proofs.Qxb6603019a.BfsA
