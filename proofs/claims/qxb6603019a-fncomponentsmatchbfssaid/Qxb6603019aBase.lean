/- The program's closed facts; pairs of nodes as a map's keys. -/
import Derived.Test.Qxb6603019aRows
import Derived.WalkKit
import Derived.WideKeyPair
import Derived.Maps.RangeWalk
import Derived.Maps.OwnSet
import Derived.Maps.OwnOps
namespace Go.Proofs.Qxb6603019a.Base
open Go.RowKit Go.Maps Go.WideMaps

theorem own : ownKnob Try.prog.godebug = none := by kernel_rfl
theorem laidOut : laidOutB Try.prog = true := by kernel_rfl
theorem cells31 : Try.prog.cellsOf 31 = 2 := by kernel_rfl
theorem cells21 : Try.prog.cellsOf 21 = 1 := by kernel_rfl
theorem arr : ArrKey Try.prog 31 21 2 := ⟨Try.underlying31, by kernel_rfl, by kernel_rfl, cells31⟩
theorem row31 : (31 : TypeId) < Try.prog.types.size := of_decide_eq_true (by kernel_rfl)
theorem law : Keyed Try.prog 31 := Keyed.of_law arr.law
theorem zero3 (w : World) : (zeroValue 3).run Try.prog w = .ok (.int .i64 0) w := by kernel_rfl
theorem sz : ∃ m, Try.prog.types.size = m + 1 := by
  exact ⟨Try.prog.types.size - 1, (Nat.succ_pred_eq_of_pos (Nat.lt_of_le_of_lt (Nat.zero_le 31) row31)).symm⟩

/-- a pair of int32 as a value -/
def pv (x y : Int) : Value := .agg #[.int .i32 x, .int .i32 y]
/-- .. as a map's key -/
def pk (x y : Int) : Lit := .string (keyBytes [.int .i32 x, .int .i32 y])
theorem keyOf_pk {x y : Int} (hx : (Lit.int .i32 x).wf = true) (hy : (Lit.int .i32 y).wf = true) : keyOf Try.prog 31 (pv x y) = some (pk x y) :=
  keyOf_pair arr Try.underlying21 sz hx hy
theorem lits21 {m : Nat} {c : Value} {l : List Lit} (h : Try.prog.keyLits (m + 1) 21 [c] = some l) : ∃ x, c = .int .i32 x ∧ (Lit.int .i32 x).wf = true := by
  unfold Program.keyLits at h
  rw [Try.underlying21] at h
  cases c <;> simp at h
  obtain ⟨⟨rfl, hw⟩, _⟩ := h
  exact ⟨_, rfl, hw⟩
theorem keyOf_inv {v : Value} {kl : Lit} (h : keyOf Try.prog 31 v = some kl) : ∃ x y, v = pv x y ∧ (Lit.int .i32 x).wf = true ∧ (Lit.int .i32 y).wf = true := by
  unfold keyOf at h
  rw [Try.underlying31] at h
  simp only at h
  split at h
  · rename_i hf
    simp only [Bool.and_eq_true] at hf
    obtain ⟨ls, hls, _⟩ := Option.map_eq_some_iff.1 h
    have hf2 := hf.2
    cases v <;> simp [Value.formed, Try.underlying31] at hf2
    rename_i cs
    rw [cells31] at hf2
    obtain ⟨m, hm⟩ := sz
    rw [hm] at hls
    match cs, hf2 with
    | ⟨[c0, c1]⟩, _ =>
      unfold Program.keyLits at hls
      simp only [Try.underlying31, Value.cells] at hls
      rw [if_pos (by rw [cells31]; rfl), show List.range 2 = [0, 1] from rfl, List.mapM_cons, List.mapM_cons, List.mapM_nil] at hls
      simp only [cells21, Option.map_eq_some_iff, Option.bind_eq_bind, Option.bind_eq_some_iff] at hls
      obtain ⟨a, ⟨l0, h0, l1, ⟨l2, h2, _⟩, _⟩, _⟩ := hls
      obtain ⟨x, rfl, hx⟩ := lits21 h0
      obtain ⟨y, rfl, hy⟩ := lits21 h2
      exact ⟨x, y, rfl, hx, hy⟩
  · cases h
theorem pk_inj {x y x' y' : Int} (hx : (Lit.int .i32 x).wf = true) (hy : (Lit.int .i32 y).wf = true) (hx' : (Lit.int .i32 x').wf = true) (hy' : (Lit.int .i32 y').wf = true) (h : pk x y = pk x' y') : x = x' ∧ y = y' := by
  have h1 := keyOf_pk hx hy
  have h2 := keyOf_pk hx' hy'
  rw [h] at h1
  have := law.inj h1 h2
  unfold pv at this
  simpa using this

/-- a step of 'for p := range linked': nothing is left; or a pair that is in the map and had not come -/
theorem next_pairs {ops : Array Oper} {rest : List Oper} {o : Oper} {a : Act} {Q : Exit → Act → World → Prop} (w : World) (hg : o.guard = none) (it : Operand) (hop : o.op = Op.next it false)
    (b r n : Nat) (D : DataW Unit) (left : Lit → Bool) (cnt : Nat) (hit : a.eval it = .pointer (some ⟨r, 0, none⟩)) (h : w.ranges Try.prog 31 (plainElem Try.prog 3) b r n D left cnt)
    (hDone : (∀ kl, left kl = false) → wpList Try.prog ops Q rest (a.put o.dst (.tuple #[.bool false])) w)
    (hMore : ∀ (x y q : Int) (w' : World) (cnt' : Nat), (Lit.int .i32 x).wf = true → (Lit.int .i32 y).wf = true → left (pk x y) = true → Maps.has D (pk x y) = true → w'.ranges Try.prog 31 (plainElem Try.prog 3) b r n D (fun z => left z && !z.sameKey (pk x y)) cnt' → cnt' < cnt →
      w.grownBy w' (some r) → w'.heap.size = w.heap.size → (Instr.entry (.pointer (some ⟨r, 0, none⟩))).run Try.prog w' = .ok (.tuple #[.agg #[.int .i32 x, .int .i32 y], .int .i64 q]) w' → wpList Try.prog ops Q rest (a.put o.dst (.tuple #[.bool true, .agg #[.int .i32 x, .int .i32 y], .int .i64 q])) w') :
    wpList Try.prog ops Q (o :: rest) a w := by
  refine wpList_next_ranges w hg it hop 31 law (plainElem Try.prog 3) (fun p : Int × Int => Value.agg #[.int .i32 p.1, .int .i32 p.2]) (Value.int .i64) (fun key kl hk => by obtain ⟨x, y, rfl, _⟩ := keyOf_inv hk; exact ⟨(x, y), rfl⟩) (fun v y hv => by obtain ⟨q, rfl, _⟩ := plainElem_int_inv Try.underlying3 hv; exact ⟨q, rfl⟩) b r n D left cnt hit h (fun _ h0 => hDone h0) ?_
  intro p q kl y w' cnt' hkey hlx hRv hat hrg hlt hgr hsz hen
  obtain ⟨x, z, e, hx, hz⟩ := keyOf_inv hkey
  have hk2 := keyOf_pk hx hz
  rw [← e, hkey] at hk2
  obtain rfl : kl = pk x z := by simpa using hk2
  have e2 : p.1 = x ∧ p.2 = z := by unfold pv at e; simpa using e
  obtain ⟨rfl, rfl⟩ := e2
  exact hMore p.1 p.2 q w' cnt' hx hz hlx (has_true_of_atKey hat) hrg hlt hgr hsz hen

theorem wf_nat {x : Nat} (h : x < 65536) : (Lit.int .i32 (x : Int)).wf = true := by
  simp [Lit.wf, IntKind.min, IntKind.max, IntKind.signed, IntKind.bits]; omega
theorem wrap_i32 {x : Int} (h1 : -2147483648 ≤ x) (h2 : x ≤ 2147483647) : IntKind.i32.wrap x = x := by
  simp [IntKind.wrap, IntKind.signed, IntKind.bits]
  omega
theorem isKey (x y : Int) : WideAt.IsKeyLit (pk x y) := trivial

end Go.Proofs.Qxb6603019a.Base
