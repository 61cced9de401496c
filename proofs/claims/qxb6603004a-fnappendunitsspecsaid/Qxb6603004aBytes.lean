/- What the walks are told of a slice of bytes; cloneBytes. -/
import Derived.Test.Qxb6603004aRows
import Derived.WalkKit
import Derived.WalkSpells
import Derived.WalkLawsBesides
import Derived.Laws.CopyOwn
import Derived.Deep.OwnRows
namespace Go.Proofs.Qxb6603004a.Bytes
open Go.RowKit

/-- a slice of integers that came in: nil; or it leads to a row of 'cap' cells, the numbers 'zs' -/
def IsRow (k : IntKind) (w : World) (a : Option Addr) (len cap : Nat) (zs : List Int) : Prop :=
  (a = none ∧ len = 0 ∧ cap = 0 ∧ zs = []) ∨
  ∃ x, a = some x ∧ len ≤ cap ∧ cap ≤ maxLen ∧ zs.length = cap ∧ (∀ i, i < zs.length → w.cell? (x.add i) = some (.int k (zs.getD i 0))) ∧ ∀ n ∈ zs, (Lit.int k n).wf = true

theorem Try.info5 : (Try.prog.info? 5).map (fun i => (i.zero, i.size, i.bytes)) = some (some (.int .u8 0), 1, 1) := by kernel_rfl
theorem Try.size5 : (Try.prog.info? 5).map (·.size) = some 1 := by kernel_rfl

set_option maxHeartbeats 400000 in
theorem clone (a0 : Option Addr) (len cap : Nat) (zs : List Int) (w : World) (h : IsRow .u8 w a0 len cap zs) (hb : len ≤ 65536) :
    Calls Try.prog 13 #[.slice a0 len cap] w fun e w' => ∃ ao, e = .returned (.slice ao len len) ∧ w'.ownsRow w.heap.size 5 1 (.slice ao len len) len ((zs.take len).map (Value.int .u8)) ∧ Below w.heap.size w w' := by
  have hnil := fun W => Lib.run_eql_slice_nil (P := Try.prog) W 26 5 a0 len cap 0 0 Try.underlying26
  rcases h with ⟨rfl, rfl, rfl, rfl⟩ | ⟨x, rfl, hl, hc, hz, hcell, -⟩
  · go_enter Try.func13, Try.ntmps13
    go_wp2
    go_ret
    exact ⟨none, rfl, World.ownsRow_nil _ _ _ _, Below.refl _ _⟩
  · have hmake := fun W => run_make_row' (P := Try.prog) 26 5 (.int .u8 0) 1 Try.underlying26 Try.info5 rfl .i64 .i64 len (by omega) (by omega) W
    have hcs : ((zs.take len).map (Value.int .u8)).length = len := by simp; omega
    have hbel : Below w.heap.size w (w.alloc (.cells (madeCells #[.int .u8 0] len) 5)) := (Below.refl _ _).alloc (Nat.le_refl _) _
    have hcopy := run_copy_row (P := Try.prog) (w.alloc (.cells (madeCells #[.int .u8 0] len) 5)) 26 26 3 5 w.heap.size 0 len len x len cap (madeCells #[.int .u8 0] len) 5 ((zs.take len).map (Value.int .u8)) Try.underlying26 Try.size5 (heap_alloc_new _ _) (by rw [hcs]; simp) (by
        intro j v hj
        have hjl : j < len := by have := (List.getElem?_eq_some_iff.1 hj).1; omega
        have e := hcell j (by omega)
        rw [hbel.cell (p := x.add j) (block_lt_of_cell e), e]
        rw [List.getElem?_map, List.getElem?_take_of_lt hjl, List.getElem?_eq_getElem (by omega)] at hj
        simp at hj
        rw [← hj]
        simp [List.getElem?_eq_getElem (show j < zs.length by omega)]) (by rw [hcs, size_madeCells]; simp) (ints_oneCell _ _)
    obtain ⟨W2, hW2⟩ : ∃ W2, W2 = (w.alloc (.cells (madeCells #[.int .u8 0] len) 5)).setRow w.heap.size ((madeCells #[.int .u8 0] len).toList.take 0 ++ (zs.take len).map (Value.int .u8) ++ (madeCells #[.int .u8 0] len).toList.drop (0 + ((zs.take len).map (Value.int .u8)).length)).toArray := ⟨_, rfl⟩
    rw [← hW2, hcs] at hcopy
    have hb2 : Below w.heap.size w W2 := by rw [hW2]; exact below_setRow hbel (Nat.le_refl _) _
    have hrow : (madeCells #[Value.int .u8 0] len).toList.drop len = [] := List.drop_eq_nil_of_le (by simp [size_madeCells])
    have hheap : W2.heap[w.heap.size]? = some (.cells ((zs.take len).map (Value.int .u8)).toArray 5 (0, 0)) := by
      rw [hW2, setRow_heap _ _ _ _ _ _ (heap_alloc_new _ _), hcs, Nat.zero_add, hrow]; simp
    have hown : W2.ownsRow w.heap.size 5 1 (.slice (some ⟨w.heap.size, 0, none⟩) len len) len ((zs.take len).map (Value.int .u8)) :=
      ⟨by rw [hcs, Nat.mul_one], .inr ⟨w.heap.size, len, _, rfl, Nat.le_refl _, hheap, Nat.le_refl _, by unfold maxLen; omega, by simp; omega, by simp [List.take_take]⟩⟩
    clear hW2 hrow hcell hheap
    go_enter Try.func13, Try.ntmps13
    go_wp2
    go_ret
    exact ⟨_, rfl, hown, hb2⟩

end Go.Proofs.Qxb6603004a.Bytes
