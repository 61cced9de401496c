/- The walk of the closure 'root' of components. -/
import Derived.Test.Qxb6603019aRows
import Derived.Test.Qxb6603019aLab
import Derived.WalkKit
import Derived.WalkSpells
import Derived.WalkLawsBesides
import Derived.Deep.OwnRows
import Derived.Deep.QuietTactic
import Derived.BigQuiet
import Derived.BigRegion
namespace Go.Proofs.Qxb6603019a.Root
open Go.RowKit Go.Proofs.Qxb6603019a.Lab

/-- the row of the parents -/
def Par (w : World) (ba n : Nat) (c : Nat → Nat) : Prop := w.rowIs ba 21 n (fun j => .int .i32 (c j : Int))
/-- nothing but the row ba is written, nothing is made -/
def OnlyRow (ba : Nat) (w w' : World) : Prop := w.grownBy w' (some ba) ∧ w'.heap.size = w.heap.size

theorem OnlyRow.refl (ba : Nat) (w : World) : OnlyRow ba w w := ⟨World.grownBy.refl _ _, rfl⟩
theorem OnlyRow.trans {ba : Nat} {a b c : World} (h : OnlyRow ba a b) (k : OnlyRow ba b c) : OnlyRow ba a c :=
  ⟨⟨k.1.os.trans h.1.os, k.1.tape.trans h.1.tape, k.1.output.trans h.1.output, Nat.le_trans h.1.size k.1.size, fun i hi hne => (k.1.block i (Nat.lt_of_lt_of_le hi h.1.size) hne).trans (h.1.block i hi hne)⟩, k.2.trans h.2⟩
theorem OnlyRow.drewN {ba : Nat} {a b : World} (h : OnlyRow ba a b) (m : Nat) : OnlyRow ba a (b.drewN m) := ⟨⟨h.1.os, h.1.tape, h.1.output, h.1.size, h.1.block⟩, h.2⟩
theorem OnlyRow.drew {ba : Nat} {a b : World} (h : OnlyRow ba a b) : OnlyRow ba a b.drew := ⟨⟨h.1.os, h.1.tape, h.1.output, h.1.size, h.1.block⟩, h.2⟩
theorem OnlyRow.set {ba : Nat} {a b : World} (h : OnlyRow ba a b) (i : Nat) (v : Value) : OnlyRow ba a (b.setCell ⟨ba, i, none⟩ v) :=
  h.trans ⟨⟨rfl, rfl, rfl, by simp [World.setCell], fun k _ hne => heap_setCell_other _ _ _ _ (fun e => hne (by rw [e]))⟩, by simp [World.setCell]⟩
theorem OnlyRow.cell {ba : Nat} {a b : World} (h : OnlyRow ba a b) {bc o : Nat} {v : Value} (hne : bc ≠ ba) (hc : a.cell? ⟨bc, o, none⟩ = some v) : b.cell? ⟨bc, o, none⟩ = some v := h.1.cell hc (by simpa using hne)
theorem Par.set {w : World} {ba n : Nat} {c : Nat → Nat} (h : Par w ba n c) (i x : Nat) : Par (w.setCell ⟨ba, i, none⟩ (.int .i32 x)) ba n (fun j => if j = i then x else c j) := by
  refine (World.rowIs.set h i _).congr fun j _ => ?_
  show _ = Value.int .i32 ((if j = i then x else c j : Nat) : Int)
  split <;> rfl
theorem Par.drew {w : World} {ba n : Nat} {c : Nat → Nat} (h : Par w ba n c) : Par w.drew ba n c := h

set_option maxHeartbeats 800000 in
theorem root (c : Nat → Nat) (n i bc ba : Nat) (w : World) (hi : i < n) (hbc : bc ≠ ba) (hcell : w.cell? ⟨bc, 0, none⟩ = some (.slice (some ⟨ba, 0, none⟩) n n)) (hrow : Par w ba n c) (hlow : Low n c) :
    Calls Try.prog 35 #[.int .i32 i, .pointer (some ⟨bc, 0, none⟩)] w fun e w' => ∃ c', e = .returned (.int .i32 (rt c i : Int)) ∧ Par w' ba n c' ∧ Halved n c c' ∧ OnlyRow ba w w' := by
  go_enter Try.func35, Try.ntmps35
  go_wp2_with fail
  go_loopw [0] (fun x wr => ∃ c' j, x = .int .i32 (j : Nat) ∧ j < n ∧ Hid (rt c j = rt c i) ∧ Par wr ba n c' ∧ Hid (Halved n c c') ∧ OnlyRow ba w wr) (fun x _ => (intOf x).toNat)
  case atStart => exact ⟨c, i, rfl, hi, rfl, hrow, Halved.refl hlow, OnlyRow.refl _ _⟩
  case round =>
    clear hrow
    obtain ⟨c', j, rfl, hj, HR, hrow, HH, honly⟩ := hrel
    have hcl := honly.cell hbc hcell
    have hlow' := HH.out.1
    have hcj := hrow.cell hj
    have hle := hlow' j hj
    by_cases hfix : c' j = j
    · have hne : ((c' j : Int) != (j : Int)) = false := by simp; omega
      have HE : Hid (rt c i = j) := by
        show _ = _
        rw [← HR.out, ← HH.out.2.1 j hj, rt_fix hfix]
      clear hfix
      go_wp2
      go_ret
      exact ⟨c', by rw [HE.out]; rfl, hrow, HH.out, honly⟩
    · have hne : ((c' j : Int) != (j : Int)) = true := by simp; omega
      have hcj2 := hrow.cell (i := c' j) (by omega)
      have hfr := hrow.frozen j
      have hle2 := hlow' (c' j) (by omega)
      have HH2 : Hid (Halved n c (fun x => if x = j then c' (c' j) else c' x)) := HH.out.trans (halve hlow' hj)
      have HR2 : Hid (rt c (c' (c' j)) = rt c i) := by
        show _ = _
        rw [← HH.out.2.1 _ (by omega), rt_step hlow' (by omega), rt_step hlow' hj, HH.out.2.1 j hj]
        exact HR.out
      go_wp2_with fail
      go_region
      all_goals go_wp2
      go_roundw
      case rel => exact ⟨_, c' (c' j), rfl, by omega, HR2, (hrow.set j (c' (c' j))).drew, HH2, (honly.set j _).drew⟩
      case measure => simp [intOf]; omega

end Go.Proofs.Qxb6603019a.Root
