/- The walk of components: each node is named by the smallest of its component. -/
import Derived.Test.Qxb6603019aRoot
import Derived.Test.Qxb6603019aBase
import Derived.Deep.RegionWith
namespace Go.Proofs.Qxb6603019a.Comp
open Go.RowKit Go.Maps Go.Proofs.Qxb6603019a.Lab Go.Proofs.Qxb6603019a.Root Go.Proofs.Qxb6603019a.Base

theorem info21 : (Try.prog.info? 21).map (fun i => (i.zero, i.size, i.bytes)) = some (some (.int .i32 0), 1, 4) := by kernel_rfl

/-- what is known of the map: nil and no edge; or its keys are just the edges -/
def MapIs (w : World) (mo : Option Nat) (n : Nat) (E : Nat → Nat → Prop) : Prop :=
  (mo = none ∧ ∀ x y, ¬ E x y) ∨ ∃ b m, ∃ D : DataW Unit, mo = some b ∧ w.ownsMap Try.prog 31 (plainElem Try.prog 3) b m D ∧
    (∀ kl, Maps.has D kl = true → ∃ x y : Nat, kl = pk x y ∧ E x y) ∧ (∀ x y : Nat, E x y → x < n ∧ y < n ∧ Maps.has D (pk x y) = true)

/-- the call's own memory: the parents' row, the captured variable that leads to it -/
def St (w wr : World) (n : Nat) (c : Nat → Nat) : Prop :=
  Par wr w.heap.size n c ∧ wr.heap[w.heap.size + 1]? = some (.cells #[.slice (some ⟨w.heap.size, 0, none⟩) n n] 27 (0, 0)) ∧ Below w.heap.size w wr

theorem St.cell {w wr : World} {n : Nat} {c : Nat → Nat} (h : St w wr n c) : wr.cell? ⟨w.heap.size + 1, 0, none⟩ = some (.slice (some ⟨w.heap.size, 0, none⟩) n n) := cell_of_one h.2.1
theorem St.lt {w wr : World} {n : Nat} {c : Nat → Nat} (h : St w wr n c) : w.heap.size + 2 ≤ wr.heap.size := lt_of_block h.2.1
theorem St.congr {w wr : World} {n : Nat} {c c' : Nat → Nat} (h : St w wr n c) (e : ∀ j, j < n → c j = c' j) : St w wr n c' :=
  ⟨World.rowIs.congr h.1 fun j hj => by rw [e j hj], h.2⟩
theorem St.set {w wr : World} {n : Nat} {c : Nat → Nat} (h : St w wr n c) (i x : Nat) : St w (wr.setCell ⟨w.heap.size, i, none⟩ (.int .i32 x)) n (fun j => if j = i then x else c j) :=
  ⟨h.1.set i x, by rw [heap_setCell_other _ _ _ _ (by show w.heap.size + 1 ≠ w.heap.size; omega)]; exact h.2.1, h.2.2.setCell (Nat.le_refl _) _⟩
theorem St.grown {w wr wr' : World} {n : Nat} {c c' : Nat → Nat} {row : Option Nat} (h : St w wr n c) (hg : wr.grownBy wr' row) (hr : ∀ k, row = some k → w.heap.size + 2 ≤ k) (he : c' = c) : St w wr' n c' := by
  subst he
  have hlt := h.lt
  have hb : ∀ k, k < w.heap.size + 2 → wr'.heap[k]? = wr.heap[k]? := fun k hk => hg.block k (by omega) (fun e => by have := hr k e.symm; omega)
  exact ⟨World.rowIs.of_block h.1 (hb _ (by omega)), by rw [hb _ (by omega)]; exact h.2.1, h.2.2.grown hg (by omega) (fun k e => by have := hr k e; omega)⟩
theorem St.only {w wr wr' : World} {n : Nat} {c c' : Nat → Nat} (h : St w wr n c) (ho : OnlyRow w.heap.size wr wr') (hp : Par wr' w.heap.size n c') : St w wr' n c' := by
  have hlt := h.lt
  refine ⟨hp, ?_, h.2.2.grown ho.1 (by omega) (fun k e => by cases e; exact Nat.le_refl _)⟩
  rw [ho.1.block _ (by omega) (by simp)]; exact h.2.1
theorem St.start (w : World) (n : Nat) : St w ((w.alloc (.cells (madeCells #[.int .i32 0] n) 21)).alloc (.cells #[.slice (some ⟨w.heap.size, 0, none⟩) n n] 27)) n (fun _ => 0) := by
  refine ⟨?_, heap_alloc2_new _ _ _, ((Below.refl _ _).alloc (Nat.le_refl _) _).alloc (by simp) _⟩
  exact (World.rowIs_made w (.int .i32 0) n 21).alloc _

theorem St.drew {w wr : World} {n : Nat} {c : Nat → Nat} (h : St w wr n c) : St w wr.drew n c := ⟨h.1, h.2.1, h.2.2.drew⟩
theorem root_st {w wr : World} {n : Nat} {c : Nat → Nat} (i : Nat) (hst : St w wr n c) (hlow : Low n c) (hi : i < n) :
    Calls Try.prog 35 #[.int .i32 i, .pointer (some ⟨w.heap.size + 1, 0, none⟩)] wr fun e w' => ∃ c', e = .returned (.int .i32 (rt c i : Int)) ∧ St w w' n c' ∧ Halved n c c' ∧ OnlyRow w.heap.size wr w' := by
  refine (root c n i (w.heap.size + 1) w.heap.size wr hi (by omega) hst.cell hst.1 hlow).mono ?_
  rintro e w' ⟨c', rfl, hp, hh, ho⟩
  exact ⟨c', rfl, hst.only ho hp, hh, ho⟩
theorem ident_step (k j : Nat) : (if j = k then k else if j < k then j else 0) = if j < k + 1 then j else 0 := by
  by_cases h1 : j = k
  · rw [if_pos h1, if_pos (by omega)]; exact h1.symm
  · by_cases h2 : j < k
    · rw [if_neg h1, if_pos h2, if_pos (by omega)]
    · rw [if_neg h1, if_neg h2, if_neg (by omega)]
theorem map_below {w wr : World} {b m : Nat} {D : DataW Unit} (h : w.ownsMap Try.prog 31 (plainElem Try.prog 3) b m D) (hb : Below w.heap.size w wr) : wr.ownsMap Try.prog 31 (plainElem Try.prog 3) b m D := by
  have hlt := h.lt
  obtain ⟨es, clock, h1, h2⟩ := h
  exact ⟨es, clock, (hb.block b hlt).trans h1, h2⟩
/-- the pairs that have come -/
def Come (E : Nat → Nat → Prop) (left : Lit → Bool) (x y : Nat) : Prop := E x y ∧ left (pk x y) = false

theorem come_step {n : Nat} {E : Nat → Nat → Prop} {left : Lit → Bool} {x y : Nat} (hn : n ≤ 65536) (hE : ∀ u v, E u v → u < n ∧ v < n) (hxy : E x y) (u v : Nat) :
    Come E (fun z => left z && !z.sameKey (pk x y)) u v ↔ (Come E left u v ∨ (u = x ∧ v = y)) := by
  unfold Come
  constructor
  · rintro ⟨h1, h2⟩
    simp only [Bool.and_eq_false_iff, Bool.not_eq_false'] at h2
    rcases h2 with h2 | h2
    · exact .inl ⟨h1, h2⟩
    · right
      have e := WideAt.sameKey_eq h2
      have a := hE u v h1
      have b := hE x y hxy
      have := pk_inj (wf_nat (by omega)) (wf_nat (by omega)) (wf_nat (by omega)) (wf_nat (by omega)) e
      omega
  · rintro (⟨h1, h2⟩ | ⟨rfl, rfl⟩)
    · exact ⟨h1, by show (left (pk u v) && !(pk u v).sameKey (pk x y)) = false; rw [h2]; rfl⟩
    · refine ⟨hxy, ?_⟩
      show (left (pk u v) && !(pk u v).sameKey (pk u v)) = false
      rw [WideAt.sameKey_self (isKey _ _)]
      simp
theorem ranges_only {w wr wr' : World} {b r m : Nat} {D : DataW Unit} {left : Lit → Bool} {cnt : Nat} (h : wr.ranges Try.prog 31 (plainElem Try.prog 3) b r m D left cnt) (ho : OnlyRow w.heap.size wr wr') (hb : b < w.heap.size) (hr : w.heap.size + 2 ≤ r) :
    wr'.ranges Try.prog 31 (plainElem Try.prog 3) b r m D left cnt := h.kept ho.1 (by simp; omega) (by simp; omega)

theorem joined_st {w w3 : World} {n : Nat} {c3 : Nat → Nat} {A B hi lo : Nat} (hst : St w w3 n c3) (h1 : hi = max A B) (h2 : lo = min A B) : St w (w3.setCell ⟨w.heap.size, hi, none⟩ (.int .i32 lo)) n (joined c3 A B) := by
  subst h1 h2
  exact hst.set _ _
theorem round_inv {n : Nat} {E : Nat → Nat → Prop} {left : Lit → Bool} {c c2 c3 : Nat → Nat} {x y : Nat} (hn : n ≤ 65536) (hE : ∀ u v, E u v → u < n ∧ v < n) (hxy : E x y) (hI : Inv n (Come E left) c) (h2 : Halved n c c2) (h3 : Halved n c2 c3) :
    Inv n (Come E (fun z => left z && !z.sameKey (pk x y))) (joined c3 (rt c x) (rt c y)) := by
  have h := h2.trans h3
  have hC : ∀ u v, Come E left u v → u < n ∧ v < n := fun u v e => hE u v e.1
  have hxn := (hE x y hxy).1
  have hyn := (hE x y hxy).2
  have hI3 := hI.halved hC h
  rw [← h.2.1 x hxn, ← h.2.1 y hyn]
  exact hI3.join hC (come_step hn hE hxy) hxn hyn

set_option maxHeartbeats 1600000 in
theorem comps_nil (n : Nat) (E : Nat → Nat → Prop) (w : World) (hn : n ≤ 65536) (hE : ∀ x y, ¬ E x y) :
    Calls Try.prog 32 #[.int .i64 n, .map none] w fun e w' => ∃ g f, e = .returned (.slice (some ⟨g, 0, none⟩) n n) ∧ w.heap.size ≤ g ∧ Par w' g n f ∧ IsLab n E f ∧ Below w.heap.size w w' := by
  have hmake := fun W => run_make_row' (P := Try.prog) 27 21 (.int .i32 0) 4 Try.underlying27 info21 rfl .i64 .i64 n (by omega) (by omega) W
  have hrg := fun W => run_range_nilMap (P := Try.prog) W 22 31 3 Try.underlying22
  go_enter Try.func32, Try.ntmps32
  go_wp2_with fail
  have hst := St.start w n
  generalize hW : (w.alloc (.cells (madeCells #[Value.int .i32 0] n) 21)).alloc (.cells #[.slice (some ⟨w.heap.size, 0, none⟩) n n] 27) = W at hst ⊢
  clear hW hmake
  go_loopw [16] (fun i wr => ∃ k : Nat, k ≤ n ∧ i = .int .i64 k ∧ St w wr n (fun j => if j < k then j else 0)) (fun i _ => n - (intOf i).toNat)
  case atStart => exact ⟨0, Nat.zero_le _, rfl, hst.congr fun j _ => by simp⟩
  case round =>
    clear hst
    obtain ⟨k, hk, rfl, hst⟩ := hrel
    have hcell := hst.cell
    by_cases hlt : k < n
    · have hck := hst.1.cell hlt
      have hfr := hst.1.frozen k
      have hst2 := hst.set k k
      go_wp2_with fail
      go_roundw
      case rel => exact ⟨k + 1, by omega, by go_num, hst2.congr fun j _ => ident_step k j⟩
      case measure => simp [intOf]; omega
    · have hst2 : St w wr n (fun j => j) := hst.congr fun j hj => by rw [if_pos (by omega)]
      have hnx : ∀ ty, (Instr.next (.pointer (some ⟨wr.heap.size, 0, none⟩)) false ty).run Try.prog (wr.alloc (.mapIter none 0 #[] 0)) = _ := fun ty => run_next_nilMap wr ty 0 0 #[]
      have hst1 : St w (wr.alloc (.mapIter none 0 #[] 0)) n (fun j => j) := hst2.grown (World.grownBy_alloc _ _ none) (fun k h => by cases h) rfl
      have hcellA := hst1.cell
      clear hst hst2
      go_wp2
      refine wp_loop_rounds 1 ?_
      rw [rounds_succ]
      go_wp2_with fail
      obtain ⟨c, hc⟩ : ∃ c : Nat → Nat, c = fun j => j := ⟨_, rfl⟩
      rw [← hc] at hst1
      have HI2 : Hid (Inv n E c) := by rw [hc]; exact Inv.start n E hE
      clear hc hnx hrg
      generalize wr.alloc (.mapIter none 0 #[] 0) = wr1 at *
      go_loopw [50] (fun i wr => ∃ k c', k ≤ n ∧ i = .int .i64 (k : Nat) ∧ St w wr n c' ∧ Hid (Last n (rt c) c' k)) (fun i _ => n - (intOf i).toNat)
      case atStart => exact ⟨0, c, Nat.zero_le _, rfl, hst1, ⟨HI2.out.1, fun _ _ => rfl, fun j h => by omega⟩⟩
      case round =>
        clear hst1 hcellA hcell
        obtain ⟨k, c', hk, rfl, hst, HL⟩ := hrel
        have hcell := hst.cell
        by_cases hlt : k < n
        · have hlow := HL.out.1
          have hwr : IntKind.i32.wrap (k : Int) = (k : Int) := wrap_i32 (by omega) (by omega)
          go_wp2_with fail
          go_region_with (first | (go_at_call 35; refine (root_st k ?_ hlow hlt).mono ?_; exact hst.drew; rintro e w2 ⟨c2, rfl, hst2, hh2, ho2⟩; have hcell2 := hst2.cell; have hck := hst2.1.cell hlt; have hfr := hst2.1.frozen k))
          all_goals
            have hst3 := hst2.set k (rt c' k)
            have HL2 : Hid (Last n (rt c) (fun j => if j = k then rt c' k else c2 j) (k + 1)) := HL.out.step hlt hh2
            go_wp2
            go_roundw
            case rel => exact ⟨k + 1, _, by omega, by go_num, hst3, HL2⟩
            case measure => simp [intOf]; omega
        · obtain rfl : k = n := by omega
          have hst3 : St w wr k (rt c) := hst.congr fun j hj => HL.out.2.2 j hj
          go_wp2
          go_ret
          exact ⟨w.heap.size, rt c, rfl, Nat.le_refl _, hst3.1, HI2.out.lab, hst3.2.2⟩
set_option maxHeartbeats 1600000 in
theorem comps (n : Nat) (b m : Nat) (D : DataW Unit) (E : Nat → Nat → Prop) (w : World) (hn : n ≤ 65536) (hown : w.ownsMap Try.prog 31 (plainElem Try.prog 3) b m D)
    (hD1 : ∀ kl, Maps.has D kl = true → ∃ x y : Nat, kl = pk x y ∧ E x y) (hD2 : ∀ x y : Nat, E x y → x < n ∧ y < n ∧ Maps.has D (pk x y) = true) :
    Calls Try.prog 32 #[.int .i64 n, .map (some b)] w fun e w' => ∃ g f, e = .returned (.slice (some ⟨g, 0, none⟩) n n) ∧ w.heap.size ≤ g ∧ Par w' g n f ∧ IsLab n E f ∧ Below w.heap.size w w' := by
  have hmake := fun W => run_make_row' (P := Try.prog) 27 21 (.int .i32 0) 4 Try.underlying27 info21 rfl .i64 .i64 n (by omega) (by omega) W
  go_enter Try.func32, Try.ntmps32
  go_wp2_with fail
  have hst := St.start w n
  generalize hW : (w.alloc (.cells (madeCells #[Value.int .i32 0] n) 21)).alloc (.cells #[.slice (some ⟨w.heap.size, 0, none⟩) n n] 27) = W at hst ⊢
  clear hW hmake
  go_loopw [16] (fun i wr => ∃ k : Nat, k ≤ n ∧ i = .int .i64 k ∧ St w wr n (fun j => if j < k then j else 0)) (fun i _ => n - (intOf i).toNat)
  case atStart => exact ⟨0, Nat.zero_le _, rfl, hst.congr fun j _ => by simp⟩
  case round =>
    clear hst
    obtain ⟨k, hk, rfl, hst⟩ := hrel
    have hcell := hst.cell
    by_cases hlt : k < n
    · have hck := hst.1.cell hlt
      have hfr := hst.1.frozen k
      have hst2 := hst.set k k
      go_wp2_with fail
      go_roundw
      case rel => exact ⟨k + 1, by omega, by go_num, hst2.congr fun j _ => ident_step k j⟩
      case measure => simp [intOf]; omega
    · have hst2 : St w wr n (fun j => j) := hst.congr fun j hj => by rw [if_pos (by omega)]
      have hownr := map_below hown hst.2.2
      clear hst
      go_wp2_with (first | (at_range; refine wpList_range_own _ rfl _ 22 rfl 31 3 law Try.underlying22 (plainElem Try.prog 3) b m D rfl hownr ?_; intro w0 hrg0 hg0 hs0))
      go_frame
      have hst0 : St w w0 n (fun j => j) := hst2.grown hg0 (fun k h => by cases h) rfl
      have hr0 := hst2.lt
      generalize wr.heap.size = r at *
      clear hst2 hg0 hs0 hownr
      go_loopw [9] (fun _ wr => ∃ c left cnt, St w wr n c ∧ wr.ranges Try.prog 31 (plainElem Try.prog 3) b r m D left cnt ∧ Hid (Inv n (Come E left) c)) (fun _ wr => wr.rangeLeft b r)
      case atStart => exact ⟨_, _, _, hst0, hrg0, Inv.start n _ fun x y h => by have h1 := (hD2 x y h.1).2.2; have h2 := h.2; rw [h1] at h2; cases h2⟩
      case round =>
        clear hst0 hrg0
        obtain ⟨c, left, cnt, hst, hrg, HI⟩ := hrel
        have hcell2 := hst.cell
        go_wp2_with (first | (at_next; refine next_pairs _ rfl _ rfl b r m D left cnt rfl hrg ?_ ?_))
        · intro hl0
          have HI2 : Hid (Inv n E c) := HI.out.congr fun x y => ⟨fun h => h.1, fun h => ⟨h, hl0 _⟩⟩
          clear HI hl0 hrg
          go_wp2_with fail
          go_loopw [50] (fun i wr => ∃ k c', k ≤ n ∧ i = .int .i64 (k : Nat) ∧ St w wr n c' ∧ Hid (Last n (rt c) c' k)) (fun i _ => n - (intOf i).toNat)
          case atStart => exact ⟨0, c, Nat.zero_le _, rfl, hst, ⟨HI2.out.1, fun _ _ => rfl, fun j h => by omega⟩⟩
          case round =>
            clear hst hcell2 hcell
            obtain ⟨k, c', hk, rfl, hst, HL⟩ := hrel
            have hcell := hst.cell
            by_cases hlt : k < n
            · have hlow := HL.out.1
              have hwr : IntKind.i32.wrap (k : Int) = (k : Int) := wrap_i32 (by omega) (by omega)
              go_wp2_with fail
              go_region_with (first | (go_at_call 35; refine (root_st k ?_ hlow hlt).mono ?_; exact hst.drew; rintro e w2 ⟨c2, rfl, hst2, hh2, ho2⟩; have hcell2 := hst2.cell; have hck := hst2.1.cell hlt; have hfr := hst2.1.frozen k))
              all_goals
                have hst3 := hst2.set k (rt c' k)
                have HL2 : Hid (Last n (rt c) (fun j => if j = k then rt c' k else c2 j) (k + 1)) := HL.out.step hlt hh2
                go_wp2
                go_roundw
                case rel => exact ⟨k + 1, _, by omega, by go_num, hst3, HL2⟩
                case measure => simp [intOf]; omega
            · obtain rfl : k = n := by omega
              have hst3 : St w wr k (rt c) := hst.congr fun j hj => HL.out.2.2 j hj
              go_wp2
              go_ret
              exact ⟨w.heap.size, rt c, rfl, Nat.le_refl _, hst3.1, HI2.out.lab, hst3.2.2⟩
        · intro x y q w1 cnt1 hwx hwy hlx hhas hrg1 hlt1 hg1 hs1 hen
          obtain ⟨x', y', hxy, hE⟩ := hD1 _ hhas
          obtain ⟨hxn, hyn, _⟩ := hD2 x' y' hE
          obtain ⟨rfl, rfl⟩ := pk_inj hwx hwy (wf_nat (by omega)) (wf_nat (by omega)) hxy
          have hst1 : St w w1 n c := hst.grown hg1 (fun k h => by cases h; exact hr0) rfl
          clear hxy hhas
          go_wp2_with fail
          have hstA : St w (w1.alloc (.cells #[.int .i32 (x' : Int), .int .i32 (y' : Int)] 31)) n c := hst1.grown (World.grownBy_alloc _ _ none) (fun k h => by cases h) rfl
          have hrgA := hrg1.alloc (.cells #[.int .i32 (x' : Int), .int .i32 (y' : Int)] 31)
          have hpA : (w1.alloc (.cells #[.int .i32 (x' : Int), .int .i32 (y' : Int)] 31)).heap[wr.heap.size]? = some (.cells #[.int .i32 (x' : Int), .int .i32 (y' : Int)] 31 (0, 0)) := by rw [← hs1]; exact heap_alloc_new _ _
          generalize w1.alloc (.cells #[.int .i32 (x' : Int), .int .i32 (y' : Int)] 31) = wA at *
          have hp0 : wA.cell? ⟨wr.heap.size, 0, none⟩ = some (.int .i32 (x' : Int)) := by rw [cell_of_row _ _ _ _ _ _ hpA]; rfl
          have hp1 : wA.cell? ⟨wr.heap.size, 1, none⟩ = some (.int .i32 (y' : Int)) := by rw [cell_of_row _ _ _ _ _ _ hpA]; rfl
          have hgt := hst.lt
          have hlow := HI.out.1
          go_region_with (first | (go_at_call_of 35 (Value.int .i32 (x' : Int)); refine (root_st x' ?_ hlow hxn).mono ?_; exact hstA.drew; rintro e w2 ⟨c2, rfl, hst2, hh2, ho2⟩; have hq0 := ho2.cell (bc := wr.heap.size) (by omega) hp0; have hq1 := ho2.cell (bc := wr.heap.size) (by omega) hp1) | (go_at_call_of 35 (Value.int .i32 (y' : Int)); refine (root_st y' ?_ hh2.1 hyn).mono ?_; exact hst2; rintro e w3 ⟨c3, rfl, hst3, hh3, ho3⟩))
          all_goals
            have e2 : rt c2 y' = rt c y' := hh2.2.1 y' hyn
            have hcell3 := hst3.cell
            have hA : rt c x' < n := Nat.lt_of_le_of_lt (rt_le hlow x' hxn) hxn
            have hB : rt c y' < n := Nat.lt_of_le_of_lt (rt_le hlow y' hyn) hyn
            have hcx := hst3.1.cell hA
            have hcy := hst3.1.cell hB
            have hfx := hst3.1.frozen (rt c x')
            have hfy := hst3.1.frozen (rt c y')
            have HI3 : Hid (Inv n (Come E (fun z => left z && !z.sameKey (pk x' y'))) (joined c3 (rt c x') (rt c y'))) := round_inv hn (fun u v e => ⟨(hD2 u v e).1, (hD2 u v e).2.1⟩) hE HI.out hh2 hh3
            have hrg3 := ranges_only (w := w) hrgA (((OnlyRow.refl w.heap.size wA).drew.trans ho2).trans ho3) hown.lt hr0
            rcases Nat.lt_trichotomy (rt c y') (rt c x') with hle | hle | hle
            · have hst4 : St w (w3.setCell ⟨w.heap.size, rt c x', none⟩ (.int .i32 (rt c y' : Int))) n (joined c3 (rt c x') (rt c y')) := joined_st hst3 (by omega) (by omega)
              have hrg4 := ranges_only (w := w) hrg3 ((OnlyRow.refl w.heap.size w3).set (rt c x') (.int .i32 (rt c y' : Int))) hown.lt hr0
              go_wp2_with fail
              go_roundw
              case rel => exact ⟨_, _, _, hst4, hrg4, HI3⟩
              case measure => rw [hrg4.left_eq, hrg.left_eq]; exact hlt1
            · have hle1 : rt c x' ≤ rt c y' := by omega
              have hle2 : rt c y' ≤ rt c x' := by omega
              clear hle
              have hst4 : St w (w3.setCell ⟨w.heap.size, rt c x', none⟩ (.int .i32 (rt c x' : Int))) n (joined c3 (rt c x') (rt c y')) := joined_st hst3 (by omega) (by omega)
              have hrg4 := ranges_only (w := w) hrg3 ((OnlyRow.refl w.heap.size w3).set (rt c x') (.int .i32 (rt c x' : Int))) hown.lt hr0
              go_wp2_with fail
              go_roundw
              case rel => exact ⟨_, _, _, hst4, hrg4, HI3⟩
              case measure => rw [hrg4.left_eq, hrg.left_eq]; exact hlt1
            · have hst4 : St w (w3.setCell ⟨w.heap.size, rt c y', none⟩ (.int .i32 (rt c x' : Int))) n (joined c3 (rt c x') (rt c y')) := joined_st hst3 (by omega) (by omega)
              have hrg4 := ranges_only (w := w) hrg3 ((OnlyRow.refl w.heap.size w3).set (rt c y') (.int .i32 (rt c x' : Int))) hown.lt hr0
              go_wp2_with fail
              go_roundw
              case rel => exact ⟨_, _, _, hst4, hrg4, HI3⟩
              case measure => rw [hrg4.left_eq, hrg.left_eq]; exact hlt1

/-- components, whatever the map -/
theorem comps_any (n : Nat) (mo : Option Nat) (E : Nat → Nat → Prop) (w : World) (hn : n ≤ 65536) (hm : MapIs w mo n E) :
    Calls Try.prog 32 #[.int .i64 n, .map mo] w fun e w' => ∃ g f, e = .returned (.slice (some ⟨g, 0, none⟩) n n) ∧ w.heap.size ≤ g ∧ Par w' g n f ∧ IsLab n E f ∧ Below w.heap.size w w' := by
  rcases hm with ⟨rfl, hE⟩ | ⟨b, m, D, rfl, hown, h1, h2⟩
  · exact comps_nil n E w hn hE
  · exact comps n b m D E w hn hown h1 h2
theorem door (n : Nat) (mo : Option Nat) (E : Nat → Nat → Prop) (w : World) (hn : n ≤ 65536) (hm : MapIs w mo n E) :
    Calls Try.prog 12 #[.int .i64 n, .map mo] w fun e w' => ∃ g f, e = .returned (.slice (some ⟨g, 0, none⟩) n n) ∧ w.heap.size ≤ g ∧ Par w' g n f ∧ IsLab n E f ∧ Below w.heap.size w w' := by
  go_enter Try.func12, Try.ntmps12
  go_wp2_with (go_at_call 32; refine (comps_any n mo E _ hn hm).mono ?_; rintro e w' ⟨g, f, rfl, h1, h2, h3, h4⟩)
  go_ret
  exact ⟨g, f, rfl, h1, h2, h3, h4⟩

end Go.Proofs.Qxb6603019a.Comp
