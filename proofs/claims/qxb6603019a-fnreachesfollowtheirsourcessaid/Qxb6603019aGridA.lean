/- The walk of the closure 'row' of reaches. -/
import Derived.Test.Qxb6603019aRows
import Derived.Test.Qxb6603019aGridPlain
import Derived.WalkKit
import Derived.WalkSpells
import Derived.WalkLawsBesides
import Derived.Deep.OwnRows
import Derived.Deep.QuietTactic
import Derived.Deep.RegionWith
import Derived.BigQuiet
import Derived.BigRegion
import Derived.Laws.CopyOwn
import Derived.Laws.Bits64b
import Derived.MapKept
namespace Go.Proofs.Qxb6603019a.GridA
open Go.RowKit Go.Proofs.Qxb6603019a.GridPlain

set_option maxHeartbeats 800000 in
theorem row (bw b L wd i p : Nat) (w : World) (hi : i < 4096) (hwd : wd ≤ 64) (HP : Hid (p = i * wd)) (hpn : p + wd ≤ L) (hp0 : p < L ∨ (p = 0 ∧ L = 0)) (hL : L ≤ 262144)
    (hw : w.cell? ⟨bw, 0, none⟩ = some (.int .i64 wd)) :
    Calls Try.prog 36 #[.slice (some ⟨b, 0, none⟩) L L, .int .i32 i, .pointer (some ⟨bw, 0, none⟩)] w fun e w' => e = .returned (.slice (some ⟨b, p, none⟩) wd (L - p)) ∧ w' = w := by
  have e1 : (i : Int) * (wd : Int) = (p : Int) := by rw [HP.out]; simp
  have e2 : ((i : Int) + 1) * (wd : Int) = ((p + wd : Nat) : Int) := by rw [HP.out]; simp [Int.add_mul]
  go_enter Try.func36, Try.ntmps36
  go_wp2
  · obtain rfl : p = 0 := by omega
    go_ret
    exact ⟨rfl, rfl⟩
  · go_ret
    exact ⟨rfl, rfl⟩

/-- a slice of integers that can be read -/
def Sl (k : IntKind) (w : World) (a : Option Addr) (len : Nat) (f : Nat → Int) : Prop :=
  (a = none → len = 0) ∧ (0 < len → ∃ b o, a = some ⟨b, o, none⟩ ∧ b < w.heap.size ∧ ∀ j, j < len → w.cell? ⟨b, o + j, none⟩ = some (.int k (f j)))
theorem Sl.below {k : IntKind} {w w' : World} {a : Option Addr} {len : Nat} {f : Nat → Int} {B : Nat} (h : Sl k w a len f) (hB : w.heap.size ≤ B) (hb : Below B w w') : Sl k w' a len f := by
  refine ⟨h.1, fun hp => ?_⟩
  obtain ⟨b, o, e, hlt, hc⟩ := h.2 hp
  refine ⟨b, o, e, Nat.lt_of_lt_of_le hlt hb.size, fun j hj => ?_⟩
  rw [hb.cell (p := ⟨b, o + j, none⟩) (Nat.lt_of_lt_of_le hlt hB)]
  exact hc j hj
/-- a slice of slices of integers, all of one length -/
def Rw (w : World) (a : Option Addr) (S n : Nat) (rows : Nat → Option Addr × Nat) (f : Nat → Nat → Int) : Prop :=
  (a = none → S = 0) ∧ (0 < S → ∃ b o, a = some ⟨b, o, none⟩ ∧ b < w.heap.size ∧ ∀ s, s < S → w.cell? ⟨b, o + s, none⟩ = some (.slice (rows s).1 n (rows s).2) ∧ Sl .i32 w (rows s).1 n (f s))
theorem Rw.below {w w' : World} {a : Option Addr} {S n : Nat} {rows : Nat → Option Addr × Nat} {f : Nat → Nat → Int} {B : Nat} (h : Rw w a S n rows f) (hB : w.heap.size ≤ B) (hb : Below B w w') : Rw w' a S n rows f := by
  refine ⟨h.1, fun hp => ?_⟩
  obtain ⟨b, o, e, hlt, hc⟩ := h.2 hp
  refine ⟨b, o, e, Nat.lt_of_lt_of_le hlt hb.size, fun j hj => ?_⟩
  rw [hb.cell (p := ⟨b, o + j, none⟩) (Nat.lt_of_lt_of_le hlt hB)]
  exact ⟨(hc j hj).1, (hc j hj).2.below hB hb⟩

/-- nothing but row b is written, nothing is made -/
def Only (b : Nat) (w w' : World) : Prop := w.grownBy w' (some b) ∧ w'.heap.size = w.heap.size
theorem Only.refl (b : Nat) (w : World) : Only b w w := ⟨World.grownBy.refl _ _, rfl⟩
theorem only_setRow (b : Nat) (w : World) (cs : Array Value) : Only b w (w.setRow b cs) :=
  ⟨⟨rfl, rfl, rfl, by simp [World.setRow], fun k _ hne => setRow_other w b k cs (fun e => hne (by rw [e]))⟩, by simp [World.setRow]⟩

theorem clear_row {w : World} {b L : Nat} {f : Nat → Value} (h : w.rowIs b 73 L f) :
    ∃ w', (∀ ty, (Builtin.clear_ #[71] ty #[.slice (some ⟨b, 0, none⟩) L L]).run Try.prog w = .ok (.tuple #[]) w') ∧ w'.rowIs b 73 L (fun _ => .int .u64 0) ∧ Only b w w' := by
  by_cases h0 : L = 0
  · subst h0
    refine ⟨w, fun ty => ?_, h.congr fun i hi => by omega, Only.refl _ _⟩
    simp [Builtin.clear_, Result.andThen]
  · obtain ⟨c, hc, hs, _⟩ := h
    obtain ⟨l, rfl⟩ : ∃ l, L = l + 1 := ⟨L - 1, by omega⟩
    have hz : (Builtin.zeroCells (Value.int .u64 0).cells (l + 1)).toList = List.replicate (l + 1) (.int .u64 0) := by
      apply List.ext_getElem
      · simp [Builtin.zeroCells, Value.cells]
      · intro i h1 h2
        simp [Builtin.zeroCells, Value.cells, Nat.mod_one]
    have hst := run_storeCells_at (P := Try.prog) b 0 73 (List.replicate (l + 1) (.int .u64 0)) 0 c w hc (by simp; omega) (fun v hv => by
      rw [(List.mem_replicate.1 hv).2]; rfl)
    have hd : List.drop (0 + 0 + (List.replicate (l + 1) (Value.int .u64 0)).length) c.toList = [] := List.drop_eq_nil_of_le (by simp; omega)
    rw [hd, List.append_nil] at hst
    refine ⟨w.setRow b (List.replicate (l + 1) (.int .u64 0)).toArray, fun ty => ?_, ⟨_, setRow_heap _ _ _ _ _ _ hc, by simp, fun i hi => by simp [hi]⟩, only_setRow _ _ _⟩
    simp only [List.take, List.nil_append] at hst
    simp [Builtin.clear_, Result.andThen, hz, hst]

theorem copy_row {w : World} {b b2 L wd p p2 c1 c2 : Nat} {H N : Nat → Nat} (h : w.rowIs b 73 L (fun j => .int .u64 (H j : Int))) (h2 : w.rowIs b2 73 L (fun j => .int .u64 (N j : Int))) (hp : p + wd ≤ L) (hp2 : p2 + wd ≤ L) :
    ∃ w' H2, (∀ ty, (Builtin.copy_ #[71, 71] ty #[.slice (some ⟨b, p, none⟩) wd c1, .slice (some ⟨b2, p2, none⟩) wd c2]).run Try.prog w = .ok (goInt wd) w') ∧ w'.rowIs b 73 L (fun j => .int .u64 ((H2 : Nat → Nat) j : Int)) ∧ Only b w w' ∧
      (∀ x, x < wd → H2 (p + x) = N (p2 + x)) ∧ (∀ j, j < p → H2 j = H j) ∧ (Small H → Small N → Small H2) := by
  obtain ⟨c, hc, hs, hcc⟩ := h
  have hrun := fun ty => run_copy_row (P := Try.prog) w 71 71 ty 73 b p wd c1 ⟨b2, p2, none⟩ wd c2 c 73 ((List.range wd).map fun x => .int .u64 (N (p2 + x) : Int)) Try.underlying71 (by kernel_rfl) hc (by simp) (fun j v hv => by
    obtain ⟨hj, rfl⟩ : j < wd ∧ v = .int .u64 (N (p2 + j) : Int) := by
      obtain ⟨hl, e⟩ := List.getElem?_eq_some_iff.1 hv
      simp at hl e
      exact ⟨hl, e.symm⟩
    have hadd : (⟨b2, p2, none⟩ : Addr).add j = ⟨b2, p2 + j, none⟩ := by
      unfold Addr.add
      by_cases h : j = 0
      · subst h; simp
      · simp [h]
    rw [hadd]
    exact h2.cell (by omega)) (by simp; omega) (fun v hv => by
      simp at hv
      obtain ⟨_, _, rfl⟩ := hv
      rfl)
  simp only [List.length_map, List.length_range] at hrun
  refine ⟨_, fun j => if p ≤ j ∧ j < p + wd then N (p2 + (j - p)) else H j, hrun, ⟨_, setRow_heap _ _ _ _ _ _ hc, ?_, ?_⟩, only_setRow _ _ _, ?_, ?_, ?_⟩
  · simp; omega
  · intro i hi
    have h0 := hcc i hi
    show _ = some (Value.int .u64 ((if p ≤ i ∧ i < p + wd then N (p2 + (i - p)) else H i : Nat) : Int))
    rw [List.getElem?_toArray, List.append_assoc]
    by_cases a : i < p
    · rw [List.getElem?_append_left (by simp; omega), List.getElem?_take_of_lt a, if_neg (by omega)]
      simpa using h0
    · rw [List.getElem?_append_right (by simp; omega)]
      have ht : (List.take p c.toList).length = p := by simp; omega
      rw [ht]
      by_cases b' : i < p + wd
      · rw [List.getElem?_append_left (by simp; omega), if_pos (by omega)]
        rw [List.getElem?_map, List.getElem?_range (by omega)]
        rfl
      · rw [List.getElem?_append_right (by simp; omega), if_neg (by omega)]
        simp only [List.length_map, List.length_range, List.getElem?_drop]
        rw [show p + wd + (i - p - wd) = i by omega]
        simpa using h0
  · intro x hx
    show (if _ then _ else _) = _
    rw [if_pos (by omega)]; congr 1; omega
  · intro j hj
    show (if _ then _ else _) = _
    rw [if_neg (by omega)]
  · intro hH hN j
    show (if _ then _ else _) < _
    split
    · exact hN _
    · exact hH _

end Go.Proofs.Qxb6603019a.GridA
