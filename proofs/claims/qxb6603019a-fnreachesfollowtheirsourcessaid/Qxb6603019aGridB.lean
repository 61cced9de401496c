/- The walk of reaches. -/
import Derived.Test.Qxb6603019aGridA
namespace Go.Proofs.Qxb6603019a.GridB
open Go.RowKit Go.Proofs.Qxb6603019a.GridPlain Go.Proofs.Qxb6603019a.GridA

theorem info73 : (Try.prog.info? 73).map (fun i => (i.zero, i.size, i.bytes)) = some (some (.int .u64 0), 1, 8) := by kernel_rfl
theorem info3 : (Try.prog.info? 3).map (fun i => (i.zero, i.size, i.bytes)) = some (some (.int .i64 0), 1, 8) := by kernel_rfl

/-- the first messages are laid -/
def RH (w wr : World) (L wd : Nat) (H : Nat → Nat) : Prop :=
  wr.heap[w.heap.size]? = some (.cells #[.int .i64 wd] 3 (0, 0)) ∧ wr.rowIs (w.heap.size + 1) 73 L (fun j => .int .u64 (H j : Int)) ∧ Below w.heap.size w wr
theorem RH.start (w : World) (L wd : Nat) : RH w ((w.alloc (.cells #[.int .i64 wd] 3)).alloc (.cells (madeCells #[.int .u64 0] L) 73)).drew L wd (fun _ => 0) := by
  refine ⟨?_, ?_, (((Below.refl _ _).alloc (Nat.le_refl _) _).alloc (by simp) _).drew⟩
  · have h : (w.alloc (.cells #[.int .i64 wd] 3)).heap[w.heap.size]? = some (.cells #[.int .i64 wd] 3 (0, 0)) := (MapKept.heap_alloc _ _).1
    exact (Go.Deep.blk_alloc_lt _ _ _ (by simp)).trans h
  · have h := World.rowIs_made (w.alloc (.cells #[.int .i64 wd] 3)) (.int .u64 0) L 73
    rw [World.size_alloc] at h
    exact h.drew
theorem RH.cell {w wr : World} {L wd : Nat} {H : Nat → Nat} (h : RH w wr L wd H) : wr.cell? ⟨w.heap.size, 0, none⟩ = some (.int .i64 wd) := cell_of_one h.1
theorem RH.set {w wr : World} {L wd : Nat} {H : Nat → Nat} (h : RH w wr L wd H) (i x : Nat) : RH w (wr.setCell ⟨w.heap.size + 1, i, none⟩ (.int .u64 x)) L wd (fun j => if j = i then x else H j) := by
  refine ⟨by rw [heap_setCell_other _ _ _ _ (by show w.heap.size ≠ w.heap.size + 1; omega)]; exact h.1, ?_, h.2.2.setCell (Nat.le_succ _) _⟩
  refine (World.rowIs.set h.2.1 i _).congr fun j _ => ?_
  show _ = Value.int .u64 ((if j = i then x else H j : Nat) : Int)
  split <;> rfl
theorem RH.drew {w wr : World} {L wd : Nat} {H : Nat → Nat} (h : RH w wr L wd H) : RH w wr.drew L wd H := ⟨h.1, h.2.1, h.2.2.drew⟩
theorem RH.only {w wr wr' : World} {L wd b : Nat} {H : Nat → Nat} (h : RH w wr L wd H) (ho : Only b wr wr') (hb : w.heap.size + 2 ≤ b) : RH w wr' L wd H := by
  have hlt := World.rowIs.lt h.2.1
  exact ⟨by rw [ho.1.block _ (by omega) (by simp; omega)]; exact h.1, h.2.1.of_block (ho.1.block _ hlt (by simp; omega)), h.2.2.grown ho.1 (by omega) (fun k e => by cases e; omega)⟩
theorem RH.alloc {w wr : World} {L wd : Nat} {H : Nat → Nat} (h : RH w wr L wd H) (o : Obj) : RH w (wr.alloc o) L wd H := by
  have hlt := World.rowIs.lt h.2.1
  exact ⟨by rw [Go.Deep.blk_alloc_lt _ _ _ (by omega)]; exact h.1, h.2.1.alloc o, h.2.2.alloc (by omega) _⟩
theorem RH.size {w wr : World} {L wd : Nat} {H : Nat → Nat} (h : RH w wr L wd H) : w.heap.size + 2 ≤ wr.heap.size := World.rowIs.lt h.2.1
/-- both rows of words -/
def RN (w wr : World) (L wd bn : Nat) (H N : Nat → Nat) : Prop := RH w wr L wd H ∧ wr.rowIs bn 73 L (fun j => .int .u64 (N j : Int)) ∧ w.heap.size + 2 ≤ bn
theorem RN.start {w wr : World} {L wd : Nat} {H : Nat → Nat} (h : RH w wr L wd H) : RN w (wr.alloc (.cells (madeCells #[.int .u64 0] L) 73)).drew L wd wr.heap.size H (fun _ => 0) :=
  ⟨(h.alloc _).drew, (World.rowIs_made wr (.int .u64 0) L 73).drew, h.size⟩
theorem RN.setN {w wr : World} {L wd bn : Nat} {H N : Nat → Nat} (h : RN w wr L wd bn H N) (i x : Nat) : RN w (wr.setCell ⟨bn, i, none⟩ (.int .u64 x)) L wd bn H (fun j => if j = i then x else N j) := by
  have hb := h.2.2
  refine ⟨h.1.only (b := bn) ⟨⟨rfl, rfl, rfl, by simp [World.setCell], fun k _ hne => heap_setCell_other _ _ _ _ (fun e => hne (by rw [e]))⟩, by simp [World.setCell]⟩ hb, ?_, hb⟩
  refine (World.rowIs.set h.2.1 i _).congr fun j _ => ?_
  show _ = Value.int .u64 ((if j = i then x else N j : Nat) : Int)
  split <;> rfl
theorem RN.drew {w wr : World} {L wd bn : Nat} {H N : Nat → Nat} (h : RN w wr L wd bn H N) : RN w wr.drew L wd bn H N := ⟨h.1.drew, h.2.1, h.2.2⟩
theorem RN.clear {w wr : World} {L wd bn : Nat} {H N : Nat → Nat} (h : RN w wr L wd bn H N) : ∃ w', (∀ ty, (Builtin.clear_ #[71] ty #[.slice (some ⟨bn, 0, none⟩) L L]).run Try.prog wr = .ok (.tuple #[]) w') ∧ RN w w' L wd bn H (fun _ => 0) := by
  obtain ⟨w', h1, h2, h3⟩ := clear_row h.2.1
  exact ⟨w', h1, h.1.only h3 h.2.2, h2, h.2.2⟩
theorem RN.copy {w wr : World} {L wd bn : Nat} {H N : Nat → Nat} (h : RN w wr L wd bn H N) (p p2 c1 c2 : Nat) (hp : p + wd ≤ L) (hp2 : p2 + wd ≤ L) :
    ∃ w' H2, (∀ ty, (Builtin.copy_ #[71, 71] ty #[.slice (some ⟨w.heap.size + 1, p, none⟩) wd c1, .slice (some ⟨bn, p2, none⟩) wd c2]).run Try.prog wr = .ok (goInt wd) w') ∧ RN w w' L wd bn H2 N ∧
      (∀ x, x < wd → H2 (p + x) = N (p2 + x)) ∧ (∀ j, j < p → H2 j = H j) ∧ (Small H → Small N → Small H2) := by
  obtain ⟨w', H2, h1, h2, h3, h4, h5, h6⟩ := copy_row (c1 := c1) (c2 := c2) h.1.2.1 h.2.1 hp hp2
  have hb := h.2.2
  have hlt := World.rowIs.lt h.1.2.1
  have hlt2 := World.rowIs.lt h.2.1
  exact ⟨w', H2, h1, ⟨⟨by rw [h3.1.block _ (by omega) (by simp)]; exact h.1.1, h2, h.1.2.2.grown h3.1 (by omega) (fun k e => by cases e; omega)⟩, h.2.1.of_block (h3.1.block _ hlt2 (by simp; omega)), hb⟩, h4, h5, h6⟩
/-- the words and the counts -/
def RC (w wr : World) (L wd bc m : Nat) (H c : Nat → Nat) : Prop := RH w wr L wd H ∧ wr.rowIs bc 3 m (fun j => .int .i64 (c j : Int)) ∧ w.heap.size + 2 ≤ bc
theorem RC.start {w wr : World} {L wd : Nat} {H : Nat → Nat} (h : RH w wr L wd H) (m : Nat) : RC w (wr.alloc (.cells (madeCells #[.int .i64 0] m) 3)) L wd wr.heap.size m H (fun _ => 0) :=
  ⟨h.alloc _, World.rowIs_made wr (.int .i64 0) m 3, h.size⟩
theorem RC.setC {w wr : World} {L wd bc m : Nat} {H c : Nat → Nat} (h : RC w wr L wd bc m H c) (i x : Nat) : RC w (wr.setCell ⟨bc, i, none⟩ (.int .i64 x)) L wd bc m H (fun j => if j = i then x else c j) := by
  have hb := h.2.2
  refine ⟨h.1.only (b := bc) ⟨⟨rfl, rfl, rfl, by simp [World.setCell], fun k _ hne => heap_setCell_other _ _ _ _ (fun e => hne (by rw [e]))⟩, by simp [World.setCell]⟩ hb, ?_, hb⟩
  refine (World.rowIs.set h.2.1 i _).congr fun j _ => ?_
  show _ = Value.int .i64 ((if j = i then x else c j : Nat) : Int)
  split <;> rfl
theorem RC.drew {w wr : World} {L wd bc m : Nat} {H c : Nat → Nat} (h : RC w wr L wd bc m H c) : RC w wr.drew L wd bc m H c := ⟨h.1.drew, h.2.1, h.2.2⟩
theorem and_bit {p x r q wd i k : Nat} (HP : Hid (p = i * wd)) (HX : Hid (x = k / 64)) (HR : Hid (r = k % 64)) (HQ : Hid (q = 2 ^ r)) (H : Nat → Nat) :
    (bit wd H i k → 0 < H (p + x) &&& q) ∧ (¬ bit wd H i k → H (p + x) &&& q = 0) := by
  unfold bit
  rw [← HP.out, ← HX.out, ← HR.out, HQ.out]
  constructor
  · intro h
    refine Nat.pos_of_ne_zero fun e => ?_
    have h2 : (H (p + x) &&& 2 ^ r).testBit r = false := by rw [e, Nat.zero_testBit]
    rw [Nat.testBit_and, h, Nat.testBit_two_pow] at h2
    simp at h2
  · intro h
    refine Nat.eq_of_testBit_eq fun j => ?_
    rw [Nat.testBit_and, Nat.testBit_two_pow, Nat.zero_testBit]
    by_cases e : r = j
    · subst e; simp at h; rw [h]; rfl
    · simp [e]
theorem row_fit {n wd L p i : Nat} (HP : Hid (p = i * wd)) (HL : Hid (L = n * wd)) (hi : i < n) : p + wd ≤ L := by
  have h1 := HP.out; have h2 := HL.out
  have : (i + 1) * wd ≤ n * wd := Nat.mul_le_mul_right _ hi
  rw [Nat.add_mul] at this; omega
theorem row_fit0 {n wd L p i : Nat} (HP : Hid (p = i * wd)) (HL : Hid (L = n * wd)) (hi : i < n) : p < L ∨ (p = 0 ∧ L = 0) := by
  have h1 := HP.out; have h2 := HL.out
  have h3 := row_fit HP HL hi
  rcases Nat.eq_zero_or_pos wd with h | h
  · subst h; simp at h1 h2; omega
  · omega
theorem wrap_i32 {x : Int} (h1 : -2147483648 ≤ x) (h2 : x ≤ 2147483647) : IntKind.i32.wrap x = x := by
  simp [IntKind.wrap, IntKind.signed, IntKind.bits]
  omega

set_option maxRecDepth 100000 in
set_option maxHeartbeats 16000000 in
theorem reaches (bg : Nat) (an : Option Addr) (n capn : Nat) (ac : Option Addr) (S capc : Nat) (rows : Nat → Option Addr × Nat) (af : Option Addr) (m capf : Nat) (cs : Nat → Nat → Nat) (fr : Nat → Nat) (w : World)
    (hn : n ≤ 4096) (hm : m ≤ 4096) (hS : S ≤ 65536) (hbg : bg < w.heap.size) (hg1 : w.cell? ⟨bg, 1, none⟩ = some (.slice an n capn)) (hg4 : w.cell? ⟨bg, 4, none⟩ = some (.slice ac S capc))
    (hrows : Rw w ac S n rows (fun s i => (cs s i : Nat))) (hfrom : Sl .i32 w af m (fun k => (fr k : Nat))) (hcs : ∀ s, s < S → ∀ i, i < n → cs s i < n) (hfr : ∀ k, k < m → fr k < n) :
    Calls Try.prog 33 #[.pointer (some ⟨bg, 0, none⟩), .slice af m capf] w fun e w' => ∃ g, ∃ c : Nat → Nat, e = .returned (.slice (some ⟨g, 0, none⟩) m m) ∧ w'.rowIs g 3 m (fun k => .int .i64 (c k : Nat)) ∧ (∀ k, k < m → c k = cnt (fun i => R n cs S i (fr k)) n) ∧ Below w.heap.size w w' := by
  obtain ⟨wd, hwd, Hm, hw64⟩ : ∃ wd : Nat, ((m : Int) + 63) / 64 = (wd : Int) ∧ Hid (m ≤ wd * 64) ∧ wd ≤ 64 := ⟨(m + 63) / 64, by omega, (by show _ ≤ _; omega), by omega⟩
  obtain ⟨L, HL, hLw, hLs⟩ : ∃ L : Nat, Hid (L = n * wd) ∧ IntKind.i64.wrap ((n : Int) * (wd : Int)) = (L : Int) ∧ L ≤ 262144 := by
    have h : n * wd ≤ 4096 * 64 := Nat.mul_le_mul hn hw64
    refine ⟨n * wd, rfl, ?_, by omega⟩
    have : (n : Int) * (wd : Int) = ((n * wd : Nat) : Int) := by simp
    rw [this]
    simp [IntKind.wrap, IntKind.signed, IntKind.bits]
    omega
  have hmake := fun W => run_make_row' (P := Try.prog) 71 73 (.int .u64 0) 8 Try.underlying71 info73 rfl .i64 .i64 L (by omega) (by omega) W
  have hbel0 : Below w.heap.size w (w.alloc (.cells #[.int .i64 wd] 3)) := (Below.refl _ _).alloc (Nat.le_refl _) _
  have hg1' : (w.alloc (.cells #[.int .i64 wd] 3)).cell? ⟨bg, 1, none⟩ = some (.slice an n capn) := by rw [hbel0.cell (p := ⟨bg, 1, none⟩) hbg]; exact hg1
  go_enter Try.func33, Try.ntmps33
  go_wp2_with fail
  go_region
  go_wp2_with fail
  have hst := RH.start w L wd
  generalize ((w.alloc (.cells #[.int .i64 wd] 3)).alloc (.cells (madeCells #[.int .u64 0] L) 73)).drew = W at *
  clear hmake hg1' hbel0 hwd
  go_loopw [37] (fun i wr => ∃ k H, k ≤ m ∧ i = .int .i64 (k : Nat) ∧ RH w wr L wd H ∧ Hid (Seed n m wd fr k H) ∧ Hid (Small H)) (fun i _ => m - (intOf i).toNat)
  case atStart => exact ⟨0, _, Nat.zero_le _, rfl, hst, Seed.start n m wd fr, fun _ => by show 0 < _; omega⟩
  case round =>
    clear hst
    obtain ⟨k, H, hk, rfl, hst, HS, HM⟩ := hrel
    have hcell := hst.cell
    by_cases hlt : k < m
    · obtain ⟨b, o, rfl, hb, hcells⟩ := hfrom.2 (by omega)
      have hc := hcells k hlt
      have hck : wr.cell? ⟨b, o + k, none⟩ = some (.int .i32 (fr k : Nat)) := by rw [hst.2.2.cell (p := ⟨b, o + k, none⟩) hb]; exact hc
      have hfk := hfr k hlt
      obtain ⟨p, HP⟩ : ∃ p, Hid (p = fr k * wd) := ⟨_, rfl⟩
      obtain ⟨x, hx, HX, hxw⟩ : ∃ x : Nat, (k : Int) / 64 = (x : Int) ∧ Hid (x = k / 64) ∧ x < wd := ⟨k / 64, by omega, rfl, by have := Hm.out; omega⟩
      obtain ⟨r, hr, HR, hr64⟩ : ∃ r : Nat, (k : Int) % 64 = (r : Int) ∧ Hid (r = k % 64) ∧ r < 64 := ⟨k % 64, by omega, rfl, by omega⟩
      have hpL : p + wd ≤ L := by
        have h1 := HP.out; have h2 := HL.out
        have := cell_lt (n := n) (wd := wd) (c := fr k) (x := wd - 1) hfk (by omega)
        omega
      have hcr := hst.2.1.cell (i := p + x) (by omega)
      have hfz := hst.2.1.frozen (p + x)
      have hx1 : (k : Int).tdiv 64 = (x : Int) := by rw [Int.tdiv_eq_ediv_of_nonneg (by omega)]; exact hx
      have hx2 : IntKind.i64.wrap (x : Int) = (x : Int) := by simp [IntKind.wrap, IntKind.signed, IntKind.bits]; omega
      have hr1 : (k : Int).tmod 64 = (r : Int) := by rw [Int.tmod_eq_emod_of_nonneg (by omega)]; exact hr
      have hr2 : IntKind.i64.wrap (r : Int) = (r : Int) := by simp [IntKind.wrap, IntKind.signed, IntKind.bits]; omega
      obtain ⟨q, hq, HQ, HQ2⟩ : ∃ q : Nat, IntKind.u64.wrap (2 ^ r) = (q : Int) ∧ Hid (q = 2 ^ r) ∧ Hid (q < 18446744073709551616) := by
        have h2 : 2 ^ r < 18446744073709551616 := Nat.pow_lt_pow_right (n := 64) (by omega) (by omega)
        have h3 : ((2 ^ r : Nat) : Int) = 2 ^ r := by simp
        refine ⟨2 ^ r, ?_, rfl, h2⟩
        rw [IntKind.wrap_u64, ← h3]; exact Int.emod_eq_of_lt (Int.natCast_nonneg _) (Int.ofNat_lt.2 h2)
      obtain ⟨y, hy, HY, HY2⟩ : ∃ y : Nat, bits .or .u64 (H (p + x) : Nat) (q : Nat) = (y : Int) ∧ Hid (y = H (p + x) ||| q) ∧ Hid (y < 18446744073709551616) :=
        ⟨H (p + x) ||| q, bits_or_u64_nat _ _ (HM.out _) HQ2.out, rfl, or_small (HM.out _) HQ2.out⟩
      have HS2 : Hid (Seed n m wd fr (k + 1) (fun j => if j = p + x then y else H j)) := by
        have h := HS.out.step Hm.out hlt
        rw [← HP.out, ← HX.out, ← HR.out, ← HQ.out, ← HY.out] at h
        exact h
      have HM2 : Hid (Small (fun j => if j = p + x then y else H j)) := HM.out.set _ _ HY2.out
      have hst2 := (hst.set (p + x) y).drew
      clear hc hcells
      go_wp2_with fail
      go_region_with (first | (go_at_call 36; refine (row w.heap.size (w.heap.size + 1) L wd (fr k) p wr.drew (by omega) hw64 HP hpL (by omega) hLs hst.drew.cell).mono ?_; rintro e w2 ⟨rfl, rfl⟩))
      all_goals
        go_wp2
        go_roundw
        case rel => exact ⟨k + 1, _, by omega, by go_num, hst2, HS2, HM2⟩
        case measure => simp [intOf]; omega
    · obtain rfl : m = k := by omega
      have HD : Hid (Held n m wd cs fr 0 H) := Held.start HS.out
      have hg1' : wr.cell? ⟨bg, 1, none⟩ = some (.slice an n capn) := by rw [hst.2.2.cell (p := ⟨bg, 1, none⟩) hbg]; exact hg1
      have hg4' : wr.cell? ⟨bg, 4, none⟩ = some (.slice ac S capc) := by rw [hst.2.2.cell (p := ⟨bg, 4, none⟩) hbg]; exact hg4
      have hmake := fun W => run_make_row' (P := Try.prog) 71 73 (.int .u64 0) 8 Try.underlying71 info73 rfl .i64 .i64 L (by omega) (by omega) W
      have hn0 := RN.start hst
      have hg4'' : (wr.alloc (.cells (madeCells #[.int .u64 0] L) 73)).drew.cell? ⟨bg, 4, none⟩ = some (.slice ac S capc) := by rw [hn0.1.2.2.cell (p := ⟨bg, 4, none⟩) hbg]; exact hg4
      clear HS
      go_wp2_with fail
      go_region
      clear hmake hg1' hg4' hcell hst
      generalize (wr.alloc (.cells (madeCells #[.int .u64 0] L) 73)).drew = W2 at *
      generalize wr.heap.size = bn at *
      go_wp2_with fail
      clear hg4''
      go_loopw [69] (fun i wr => ∃ s H N, s ≤ S ∧ i = .int .i64 (s : Nat) ∧ RN w wr L wd bn H N ∧ Hid (Held n m wd cs fr s H) ∧ Hid (Small H)) (fun i _ => S - (intOf i).toNat)
      case atStart => exact ⟨0, _, _, Nat.zero_le _, rfl, hn0, HD, HM⟩
      case round =>
        clear hn0 HD HM
        obtain ⟨s, H, N, hs, rfl, hst, HD, HM⟩ := hrel
        by_cases hlts : s < S
        · obtain ⟨b, o, rfl, hb, hcells⟩ := hrows.2 (by omega)
          obtain ⟨hc, hsl⟩ := hcells s hlts
          obtain ⟨ra, hra⟩ : ∃ ra, ra = (rows s).1 := ⟨_, rfl⟩
          obtain ⟨rc, hrc⟩ : ∃ rc, rc = (rows s).2 := ⟨_, rfl⟩
          obtain ⟨comp, hcomp⟩ : ∃ comp, comp = cs s := ⟨_, rfl⟩
          have Hcmp : Hid (comp = cs s) := hcomp
          rw [← hra, ← hrc] at hc
          have hsl' : Sl .i32 w ra n (fun i => (comp i : Nat)) := by rw [hra, hcomp]; exact hsl
          have hcb : ∀ i, i < n → comp i < n := by rw [hcomp]; exact hcs s hlts
          have hck : wr.cell? ⟨b, o + s, none⟩ = some (.slice ra n rc) := by rw [hst.1.2.2.cell (p := ⟨b, o + s, none⟩) hb]; exact hc
          obtain ⟨w1, hcl, hn1⟩ := hst.clear
          clear hra hrc hcomp hsl hc hcells hst
          go_wp2_with fail
          clear hcl hck
          go_loopw [76] (fun i wr => ∃ i0 N, i0 ≤ n ∧ i = .int .i64 (i0 : Nat) ∧ RN w wr L wd bn H N ∧ Hid (Gath n wd comp H i0 0 N) ∧ Hid (Small N)) (fun i _ => n - (intOf i).toNat)
          case atStart => exact ⟨0, _, Nat.zero_le _, rfl, hn1, Gath.start n wd comp H, fun _ => by show 0 < _; omega⟩
          case round =>
            clear hn1
            obtain ⟨i0, N, hi0, rfl, hst, HG, HN⟩ := hrel
            by_cases hlti : i0 < n
            · obtain ⟨b2, o2, rfl, hb2, hcells2⟩ := hsl'.2 (by omega)
              have hc2 := hcells2 i0 hlti
              have hck : wr.cell? ⟨b2, o2 + i0, none⟩ = some (.int .i32 (comp i0 : Nat)) := by rw [hst.1.2.2.cell (p := ⟨b2, o2 + i0, none⟩) hb2]; exact hc2
              have hci := hcb i0 hlti
              obtain ⟨p, HP⟩ : ∃ p, Hid (p = i0 * wd) := ⟨_, rfl⟩
              obtain ⟨p2, HP2⟩ : ∃ p2, Hid (p2 = comp i0 * wd) := ⟨_, rfl⟩
              have hpL : p + wd ≤ L := row_fit HP HL hlti
              have hpL2 : p2 + wd ≤ L := row_fit HP2 HL hci
              have hp0 : p < L ∨ (p = 0 ∧ L = 0) := row_fit0 HP HL hlti
              have hp02 : p2 < L ∨ (p2 = 0 ∧ L = 0) := row_fit0 HP2 HL hci
              have hwr : IntKind.i32.wrap (i0 : Int) = (i0 : Int) := wrap_i32 (by omega) (by omega)
              clear hc2 hcells2
              go_wp2_with (go_at_call 36; refine (row w.heap.size (w.heap.size + 1) L wd i0 p _ (by omega) hw64 HP hpL hp0 hLs hst.1.cell).mono ?_; rintro e w2 ⟨rfl, rfl⟩)
              clear hck
              go_loopw [87] (fun i wr => ∃ x N, x ≤ wd ∧ i = .int .i64 (x : Nat) ∧ RN w wr L wd bn H N ∧ Hid (Gath n wd comp H i0 x N) ∧ Hid (Small N)) (fun i _ => wd - (intOf i).toNat)
              case atStart => exact ⟨0, _, Nat.zero_le _, rfl, hst, HG, HN⟩
              case round =>
                clear hst HG HN
                obtain ⟨x, N, hx, rfl, hst, HG, HN⟩ := hrel
                by_cases hltx : x < wd
                · have hch := hst.1.2.1.cell (i := p + x) (by omega)
                  have hcn := hst.2.1.cell (i := p2 + x) (by omega)
                  have hfz := hst.2.1.frozen (p2 + x)
                  obtain ⟨y, hy, HY, HY2⟩ : ∃ y : Nat, bits .or .u64 (N (p2 + x) : Nat) (H (p + x) : Nat) = (y : Int) ∧ Hid (y = N (p2 + x) ||| H (p + x)) ∧ Hid (y < 18446744073709551616) :=
                    ⟨_, bits_or_u64_nat _ _ (HN.out _) (HM.out _), rfl, or_small (HN.out _) (HM.out _)⟩
                  have HG2 : Hid (Gath n wd comp H i0 (x + 1) (fun j => if j = p2 + x then y else N j)) := by
                    have h := HG.out.step hltx
                    rw [← HP2.out, ← HP.out, ← HY.out] at h
                    exact h
                  have HN2 : Hid (Small (fun j => if j = p2 + x then y else N j)) := HN.out.set _ _ HY2.out
                  have hst2 := hst.setN (p2 + x) y
                  go_wp2_with (go_at_call 36; refine (row w.heap.size bn L wd (comp i0) p2 _ (by omega) hw64 HP2 hpL2 hp02 hLs hst.1.cell).mono ?_; rintro e w3 ⟨rfl, rfl⟩)
                  go_roundw
                  case rel => exact ⟨x + 1, _, by omega, by go_num, hst2, HG2, HN2⟩
                  case measure => simp [intOf]; omega
                · obtain rfl : wd = x := by omega
                  have HG2 : Hid (Gath n wd comp H (i0 + 1) 0 N) := HG.out.row
                  go_wp2_with fail
                  go_roundw
                  case rel => exact ⟨i0 + 1, _, by omega, by go_num, hst, HG2, HN⟩
                  case measure => simp [intOf]; omega
            · obtain rfl : n = i0 := by omega
              go_wp2_with fail
              go_loopw [106] (fun i wr => ∃ i1 H2, i1 ≤ n ∧ i = .int .i64 (i1 : Nat) ∧ RN w wr L wd bn H2 N ∧ Hid (Back wd comp N i1 H2) ∧ Hid (Small H2)) (fun i _ => n - (intOf i).toNat)
              case atStart => exact ⟨0, _, Nat.zero_le _, rfl, hst, Back.start wd comp N H, HM⟩
              case round =>
                clear hst
                obtain ⟨i1, H2, hi1, rfl, hst, HB, HM2⟩ := hrel
                by_cases hltj : i1 < n
                · obtain ⟨b2, o2, rfl, hb2, hcells2⟩ := hsl'.2 (by omega)
                  have hc2 := hcells2 i1 hltj
                  have hck : wr.cell? ⟨b2, o2 + i1, none⟩ = some (.int .i32 (comp i1 : Nat)) := by rw [hst.1.2.2.cell (p := ⟨b2, o2 + i1, none⟩) hb2]; exact hc2
                  have hci := hcb i1 hltj
                  obtain ⟨p, HP⟩ : ∃ p, Hid (p = i1 * wd) := ⟨_, rfl⟩
                  obtain ⟨p2, HP2⟩ : ∃ p2, Hid (p2 = comp i1 * wd) := ⟨_, rfl⟩
                  have hpL : p + wd ≤ L := row_fit HP HL hltj
                  have hpL2 : p2 + wd ≤ L := row_fit HP2 HL hci
                  have hp0 : p < L ∨ (p = 0 ∧ L = 0) := row_fit0 HP HL hltj
                  have hp02 : p2 < L ∨ (p2 = 0 ∧ L = 0) := row_fit0 HP2 HL hci
                  have hwr : IntKind.i32.wrap (i1 : Int) = (i1 : Int) := wrap_i32 (by omega) (by omega)
                  obtain ⟨w4, H3, hcp, hst3, h4, h5, h6⟩ := hst.copy p p2 (L - p) (L - p2) hpL hpL2
                  have HB2 : Hid (Back wd comp N (i1 + 1) H3) := by
                    refine HB.out.step (fun x hx => ?_) (fun j hj => ?_)
                    · rw [← HP.out, ← HP2.out]; exact h4 x hx
                    · rw [← HP.out] at hj; exact h5 j hj
                  have HM3 : Hid (Small H3) := h6 HM2.out HN.out
                  clear hc2 hcells2 h4 h5 h6
                  go_wp2_with fail
                  refine (row w.heap.size (w.heap.size + 1) L wd i1 p _ (by omega) hw64 HP hpL hp0 hLs hst.1.cell).mono ?_
                  rintro e w3 ⟨rfl, rfl⟩
                  go_wp2_with fail
                  refine (row w.heap.size bn L wd (comp i1) p2 _ (by omega) hw64 HP2 hpL2 hp02 hLs hst.1.cell).mono ?_
                  rintro e w3 ⟨rfl, rfl⟩
                  go_wp2_with fail
                  go_roundw
                  case rel => exact ⟨i1 + 1, _, by omega, by go_num, hst3, HB2, HM3⟩
                  case measure => simp [intOf]; omega
                · obtain rfl : n = i1 := by omega
                  have HD2 : Hid (Held n m wd cs fr (s + 1) H2) := by
                    refine HD.out.step (N := N) Hm.out (hcs s hlts) ?_ ?_
                    · rw [← Hcmp.out]; exact HG.out
                    · rw [← Hcmp.out]; exact HB.out
                  go_wp2_with fail
                  go_roundw
                  case rel => exact ⟨s + 1, _, _, by omega, by go_num, hst, HD2, HM2⟩
                  case measure => simp [intOf]; omega
        · obtain rfl : S = s := by omega
          have hmake := fun W => run_make_row' (P := Try.prog) 33 3 (.int .i64 0) 8 Try.underlying33 info3 rfl .i64 .i64 m (by omega) (by omega) W
          obtain ⟨P, hP⟩ : ∃ P : Nat → Nat → Prop, P = fun k i => R n cs S i (fr k) := ⟨_, rfl⟩
          have HPd : Hid (P = fun k i => R n cs S i (fr k)) := hP
          have HBt : Hid (∀ i k, i < n → k < m → (bit wd H i k ↔ P k i)) := by rw [hP]; exact HD.out
          have hrc0 := RC.start hst.1 m
          have hg1' : (wr.alloc (.cells (madeCells #[.int .i64 0] m) 3)).cell? ⟨bg, 1, none⟩ = some (.slice an n capn) := by rw [hrc0.1.2.2.cell (p := ⟨bg, 1, none⟩) hbg]; exact hg1
          clear hP HD hst
          go_wp2_with fail
          clear hmake hg1'
          generalize wr.alloc (.cells (madeCells #[.int .i64 0] m) 3) = W3 at *
          generalize wr.heap.size = bc at *
          go_loopw [131] (fun i wr => ∃ i0 c, i0 ≤ n ∧ i = .int .i64 (i0 : Nat) ∧ RC w wr L wd bc m H c ∧ Hid (Cnts m P i0 0 c)) (fun i _ => n - (intOf i).toNat)
          case atStart => exact ⟨0, _, Nat.zero_le _, rfl, hrc0, Cnts.start m P⟩
          case round =>
            clear hrc0
            obtain ⟨i0, c, hi0, rfl, hst, HC⟩ := hrel
            by_cases hlti : i0 < n
            · obtain ⟨p, HP⟩ : ∃ p, Hid (p = i0 * wd) := ⟨_, rfl⟩
              have hpL : p + wd ≤ L := row_fit HP HL hlti
              have hp0 : p < L ∨ (p = 0 ∧ L = 0) := row_fit0 HP HL hlti
              have hwr : IntKind.i32.wrap (i0 : Int) = (i0 : Int) := wrap_i32 (by omega) (by omega)
              go_wp2_with fail
              go_loopw [136] (fun i wr => ∃ k c, k ≤ m ∧ i = .int .i64 (k : Nat) ∧ RC w wr L wd bc m H c ∧ Hid (Cnts m P i0 k c)) (fun i _ => m - (intOf i).toNat)
              case atStart => exact ⟨0, _, Nat.zero_le _, rfl, hst, HC⟩
              case round =>
                clear hst HC
                obtain ⟨k, c, hk, rfl, hst, HC⟩ := hrel
                by_cases hltk : k < m
                · obtain ⟨x, hx, HX, hxw⟩ : ∃ x : Nat, (k : Int) / 64 = (x : Int) ∧ Hid (x = k / 64) ∧ x < wd := ⟨k / 64, by omega, rfl, by have := Hm.out; omega⟩
                  obtain ⟨r, hr, HR, hr64⟩ : ∃ r : Nat, (k : Int) % 64 = (r : Int) ∧ Hid (r = k % 64) ∧ r < 64 := ⟨k % 64, by omega, rfl, by omega⟩
                  have hx1 : (k : Int).tdiv 64 = (x : Int) := by rw [Int.tdiv_eq_ediv_of_nonneg (by omega)]; exact hx
                  have hx2 : IntKind.i64.wrap (x : Int) = (x : Int) := by simp [IntKind.wrap, IntKind.signed, IntKind.bits]; omega
                  have hr1 : (k : Int).tmod 64 = (r : Int) := by rw [Int.tmod_eq_emod_of_nonneg (by omega)]; exact hr
                  have hr2 : IntKind.i64.wrap (r : Int) = (r : Int) := by simp [IntKind.wrap, IntKind.signed, IntKind.bits]; omega
                  obtain ⟨q, hq, HQ, HQ2⟩ : ∃ q : Nat, IntKind.u64.wrap (2 ^ r) = (q : Int) ∧ Hid (q = 2 ^ r) ∧ Hid (q < 18446744073709551616) := by
                    have h2 : 2 ^ r < 18446744073709551616 := Nat.pow_lt_pow_right (n := 64) (by omega) (by omega)
                    have h3 : ((2 ^ r : Nat) : Int) = 2 ^ r := by simp
                    refine ⟨2 ^ r, ?_, rfl, h2⟩
                    rw [IntKind.wrap_u64, ← h3]; exact Int.emod_eq_of_lt (Int.natCast_nonneg _) (Int.ofNat_lt.2 h2)
                  have hcr := hst.1.2.1.cell (i := p + x) (by omega)
                  have hcc := hst.2.1.cell (i := k) hltk
                  have hfz := hst.2.1.frozen k
                  have hle := HC.out.le k hltk
                  have hb : bits .and .u64 (H (p + x) : Nat) (q : Nat) = ((H (p + x) &&& q : Nat) : Int) := bits_and_u64_nat _ _ (HM.out _) HQ2.out
                  have hb2 := and_bit HP HX HR HQ H
                  by_cases hbit : P k i0
                  · obtain ⟨y, hy, hyn⟩ : ∃ y : Nat, bits .and .u64 (H (p + x) : Nat) (q : Nat) = (y : Int) ∧ 0 < y := ⟨_, hb, (hb2.1 ((HBt.out i0 k hlti hltk).2 hbit))⟩
                    have hst2 : RC w (wr.drew.setCell ⟨bc, k, none⟩ (.int .i64 ((c k : Int) + 1))) L wd bc m H (fun j => if j = k then c k + 1 else c j) := hst.drew.setC k (c k + 1)
                    have HC2 : Hid (Cnts m P i0 (k + 1) (fun j => if j = k then c k + 1 else c j)) := HC.out.yes hbit hltk
                    clear hb hb2 hbit
                    go_wp2_with fail
                    go_region_with (first | (go_at_call 36; refine (row w.heap.size (w.heap.size + 1) L wd i0 p wr.drew (by omega) hw64 HP hpL hp0 hLs hst.1.drew.cell).mono ?_; rintro e w2 ⟨rfl, rfl⟩))
                    all_goals
                      go_wp2
                      go_roundw
                      case rel => exact ⟨k + 1, _, by omega, by go_num, hst2, HC2⟩
                      case measure => simp [intOf]; omega
                  · have hy : bits .and .u64 (H (p + x) : Nat) (q : Nat) = 0 := by
                      rw [hb, hb2.2 (fun h => hbit ((HBt.out i0 k hlti hltk).1 h))]; rfl
                    have HC2 : Hid (Cnts m P i0 (k + 1) c) := HC.out.no hbit
                    clear hb hb2 hbit
                    go_wp2_with fail
                    go_region_with (first | (go_at_call 36; refine (row w.heap.size (w.heap.size + 1) L wd i0 p wr.drew (by omega) hw64 HP hpL hp0 hLs hst.1.drew.cell).mono ?_; rintro e w2 ⟨rfl, rfl⟩))
                    all_goals
                      go_wp2
                      go_roundw
                      case rel => exact ⟨k + 1, _, by omega, by go_num, hst.drew, HC2⟩
                      case measure => simp [intOf]; omega
                · obtain rfl : m = k := by omega
                  have HC2 : Hid (Cnts m P (i0 + 1) 0 c) := HC.out.row
                  go_wp2_with fail
                  go_roundw
                  case rel => exact ⟨i0 + 1, _, by omega, by go_num, hst, HC2⟩
                  case measure => simp [intOf]; omega
            · obtain rfl : n = i0 := by omega
              go_wp2
              go_ret
              refine ⟨bc, c, rfl, hst.2.1, fun k hk => ?_, hst.1.2.2⟩
              rw [HC.out k hk, if_neg (by omega), HPd.out]
end Go.Proofs.Qxb6603019a.GridB
