/- The walks of compPairLess, compKeysEnumerate, compCloneKeys, compCopyMap. -/
import Derived.Test.Qxb6603019aComp
namespace Go.Proofs.Qxb6603019a.Keys
open Go.RowKit Go.Maps Go.Proofs.Qxb6603019a.Lab Go.Proofs.Qxb6603019a.Root Go.Proofs.Qxb6603019a.Base Go.Proofs.Qxb6603019a.Comp

theorem pless (a b c d : Int) (w : World) : Calls Try.prog 31 #[.agg #[.int .i32 a, .int .i32 b], .agg #[.int .i32 c, .int .i32 d]] w fun e w' => ∃ r, e = .returned (.bool r) ∧ Below w.heap.size w w' := by
  go_enter Try.func31, Try.ntmps31
  go_wp2
  all_goals go_ret
  all_goals exact ⟨_, rfl, ((Below.refl _ _).alloc (Nat.le_refl _) _).alloc (by simp) _⟩

/-- what is known of a map in whatever later world: its length; what a look-up answers -/
def MapOk (w : World) (mo : Option Nat) (sz : Nat) : Prop := (mo = none → sz = 0) ∧ ∀ W, Below w.heap.size w W → (∀ ty, (Builtin.len_ #[22] ty #[.map mo]).run Try.prog W = .ok (.int .i64 sz) W) ∧
  ∀ x y : Int, (Lit.int .i32 x).wf = true → (Lit.int .i32 y).wf = true → ∃ c : Int, ∃ r : Bool, (Lit.int .i64 c).wf = true ∧ (Instr.lookup 22 (.map mo) (.agg #[.int .i32 x, .int .i32 y]) true).run Try.prog W = .ok (.tuple #[.int .i64 c, .bool r]) W ∧
    (Instr.lookup 22 (.map mo) (.agg #[.int .i32 x, .int .i32 y]) false).run Try.prog W = .ok (.int .i64 c) W

theorem MapOk.nil (w : World) : MapOk w none 0 := by
  refine ⟨fun _ => rfl, fun W _ => ⟨fun ty => Maps.len_nil Try.underlying22 ty, fun x y hx hy => ⟨0, false, by decide, ?_, ?_⟩⟩⟩
  · exact Maps.look_nil true law Try.underlying22 (zero3 _) (keyOf_pk hx hy)
  · exact Maps.look_nil false law Try.underlying22 (zero3 _) (keyOf_pk hx hy)
theorem MapOk.own {w : World} {b m : Nat} {D : DataW Unit} (h : w.ownsMap Try.prog 31 (plainElem Try.prog 3) b m D) : MapOk w (some b) (Maps.size D) := by
  refine ⟨fun e => (by cases e), fun W hW => ?_⟩
  have h2 := map_below h hW
  refine ⟨fun ty => h2.len Try.underlying22 ty, fun x y hx hy => ?_⟩
  obtain ⟨c, hrun, hat, hw⟩ := h2.lookup_int law Try.underlying22 Try.underlying3 (zero3 _) (keyOf_pk hx hy)
  obtain ⟨v, ps, hrun2, hv⟩ := h2.look_ok law Try.underlying22 (zero3 _) (plainElem_int Try.underlying3 (show (Lit.int .i64 0).wf = true by decide)) (keyOf_pk hx hy)
  obtain ⟨c2, rfl, hc2, _⟩ := plainElem_int_inv Try.underlying3 hv
  simp only [Prod.mk.injEq] at hc2
  rw [hat] at hc2
  obtain rfl : c = c2 := by simpa using hc2.1
  exact ⟨c, _, hw, hrun2, hrun⟩

theorem wrap_i64 {x : Int} (h1 : -9223372036854775808 ≤ x) (h2 : x ≤ 9223372036854775807) : IntKind.i64.wrap x = x := by
  simp [IntKind.wrap, IntKind.signed, IntKind.bits]
  omega
theorem bounds_i32' {n : Int} (h : (Lit.int .i32 n).wf = true) : -2147483648 ≤ n ∧ n ≤ 2147483647 := by
  simp [Lit.wf, IntKind.min, IntKind.max, IntKind.signed, IntKind.bits] at h
  omega
/-- what is known of the slice of pairs -/
def KeysIs (w : World) (a : Option Addr) (len : Nat) (ks : List (Int × Int)) : Prop :=
  ks.length = len ∧ (∀ p ∈ ks, (Lit.int .i32 p.1).wf = true ∧ (Lit.int .i32 p.2).wf = true) ∧ (a = none → len = 0) ∧
  (0 < len → ∃ b o, a = some ⟨b, o, none⟩ ∧ b < w.heap.size ∧ ∀ j (h : j < ks.length), w.cell? ⟨b, o + j * 2, none⟩ = some (.int .i32 ks[j].1) ∧ w.cell? ⟨b, o + j * 2 + 1, none⟩ = some (.int .i32 ks[j].2))
/-- both nodes of a pair lie in [0, n) -/
def Okp (n : Nat) (p : Int × Int) : Prop := 0 ≤ p.1 ∧ p.1 < n ∧ 0 ≤ p.2 ∧ p.2 < n

/-- what compKeysEnumerate answers -/
def EnumPost (n len sz : Nat) (ks : List (Int × Int)) (w : World) (e : Ending) (w' : World) : Prop := ∃ r, e = .returned (.bool r) ∧ (r = true → len = sz ∧ ∀ p ∈ ks, Okp n p) ∧ Below w.heap.size w w'
theorem EnumPost.no {n len sz : Nat} {ks : List (Int × Int)} {w w' : World} (h : Below w.heap.size w w') : EnumPost n len sz ks w (.returned (.bool false)) w' := ⟨false, rfl, fun h => (by cases h), h⟩
theorem EnumPost.yes {n len : Nat} {ks : List (Int × Int)} {w w' : World} (hk : ∀ p ∈ ks, Okp n p) (h : Below w.heap.size w w') : EnumPost n len len ks w (.returned (.bool true)) w' := ⟨true, rfl, fun _ => ⟨rfl, hk⟩, h⟩
theorem below_drewN {B : Nat} {a b : World} (h : Below B a b) (m : Nat) : Below B a (b.drewN m) := ⟨h.os, h.tape, h.output, h.size, h.block⟩
theorem below_undrew {a b : World} (h : Below a.drew.heap.size a.drew b) : Below a.heap.size a b := ⟨h.os, h.tape, h.output, h.size, h.block⟩
theorem okp_step {n k : Nat} {ks : List (Int × Int)} (hk : k < ks.length) (h : ∀ j (h : j < ks.length), j < k → Okp n ks[j]) (hp : Okp n ks[k]) : ∀ j (h : j < ks.length), j < k + 1 → Okp n ks[j] := by
  intro j hj hjk
  by_cases e : j = k
  · subst e; exact hp
  · exact h j hj (by omega)
theorem not_okp {n : Nat} {x y : Int} (h : ¬ Okp n (x, y)) : x < 0 ∨ (n : Int) ≤ x ∨ (0 ≤ x ∧ x < n ∧ y < 0) ∨ (0 ≤ x ∧ x < n ∧ 0 ≤ y ∧ (n : Int) ≤ y) := by
  have h' : ¬ (0 ≤ x ∧ x < n ∧ 0 ≤ y ∧ y < n) := h
  omega
theorem okp_all {n k : Nat} {ks : List (Int × Int)} (hk : ks.length ≤ k) (h : ∀ j (h : j < ks.length), j < k → Okp n ks[j]) : ∀ p ∈ ks, Okp n p := by
  intro p hp
  obtain ⟨j, hj, rfl⟩ := List.getElem_of_mem hp
  exact h j hj (by omega)

set_option maxHeartbeats 1600000 in
theorem enum (n : Nat) (mo : Option Nat) (sz : Nat) (a : Option Addr) (len cap : Nat) (ks : List (Int × Int)) (w : World) (_hn : n ≤ 65536) (hl : len ≤ 65536) (hs : sz ≤ 65536) (hm : MapOk w mo sz) (hk : KeysIs w a len ks) :
    Calls Try.prog 9 #[.int .i64 n, .map mo, .slice a len cap] w fun e w' => EnumPost n len sz ks w e w' := by
  have hlen := (hm.2 w (Below.refl _ _)).1
  by_cases hsz : len = sz
  · subst hsz
    have hne : ((len : Int) != (len : Int)) = false := by simp
    go_enter Try.func9, Try.ntmps9
    go_wp2_with fail
    clear hlen
    go_loopw [7] (fun i wr => ∃ k : Nat, k ≤ len ∧ i = .int .i64 k ∧ Hid (∀ j (h : j < ks.length), j < k → Okp n ks[j]) ∧ Below w.heap.size w wr) (fun i _ => len - (intOf i).toNat)
    case atStart => exact ⟨0, Nat.zero_le _, rfl, fun j h h2 => by omega, Below.refl _ _⟩
    case round =>
      obtain ⟨k, hk', rfl, HK, hbel⟩ := hrel
      by_cases hlt : k < len
      · obtain ⟨hkl, hwf, _, hpos⟩ := hk
        obtain ⟨b, o, rfl, hb, hcells⟩ := hpos (by omega)
        obtain ⟨hc0, hc1⟩ := hcells k (by omega)
        obtain ⟨hw0, hw1⟩ := hwf ks[k] (List.getElem_mem _)
        obtain ⟨c, r, _, hlook, _⟩ := (hm.2 (wr.alloc (.cells #[.int .i32 ks[k].1, .int .i32 ks[k].2] 31)) (hbel.alloc hbel.size _)).2 _ _ hw0 hw1
        have hd0 : wr.cell? ⟨b, o + k * 2, none⟩ = some (.int .i32 ks[k].1) := by rw [hbel.cell (p := ⟨b, o + k * 2, none⟩) hb]; exact hc0
        have hd1 : wr.cell? ⟨b, o + k * 2 + 1, none⟩ = some (.int .i32 ks[k].2) := by rw [hbel.cell (p := ⟨b, o + k * 2 + 1, none⟩) hb]; exact hc1
        have HKS : Hid (Okp n ks[k] → ∀ j (h : j < ks.length), j < k + 1 → Okp n ks[j]) := fun h => okp_step (by omega) HK.out h
        have hbA : Below w.heap.size w (wr.alloc (.cells #[.int .i32 ks[k].1, .int .i32 ks[k].2] 31)) := hbel.alloc hbel.size _
        have hpA : (wr.alloc (.cells #[.int .i32 ks[k].1, .int .i32 ks[k].2] 31)).heap[wr.heap.size]? = some (.cells #[.int .i32 ks[k].1, .int .i32 ks[k].2] 31 (0, 0)) := heap_alloc_new _ _
        obtain ⟨x, y, HXY⟩ : ∃ x y, Hid (ks[k] = (x, y)) := ⟨ks[k].1, ks[k].2, rfl⟩
        rw [HXY.out] at hw0 hw1 hlook hd0 hd1 hbA hpA
        simp only at hw0 hw1 hlook hd0 hd1 hbA hpA
        have hx := bounds_i32' hw0
        have hy := bounds_i32' hw1
        clear hc0 hc1 hpos hm hwf hw0 hw1
        cases r
        · go_wp2_with fail
          go_ret
          exact EnumPost.no hbA
        · go_wp2_with fail
          clear hlook hd0 hd1
          generalize wr.alloc (.cells #[.int .i32 x, .int .i32 y] 31) = wA at *
          have hp0 : wA.cell? ⟨wr.heap.size, 0, none⟩ = some (.int .i32 x) := by rw [cell_of_row _ _ _ _ _ _ hpA]; rfl
          have hp1 : wA.cell? ⟨wr.heap.size, 1, none⟩ = some (.int .i32 y) := by rw [cell_of_row _ _ _ _ _ _ hpA]; rfl
          by_cases hk0 : k = 0
          · have hd : decide ((0 : Int) < (k : Int)) = false := by simp; omega
            go_quiet (fail)
            have hbB := below_drewN hbA nq
            by_cases hokp : Okp n (x, y)
            · have HK2 := HKS.out (HXY.out ▸ hokp)
              obtain ⟨ho1, ho2, ho3, ho4⟩ := hokp
              go_wp2
              go_roundw
              case rel => exact ⟨1, by omega, rfl, by rw [hk0] at HK2; exact HK2, hbB⟩
              case measure => simp [intOf]; omega
            · have ho : x < 0 ∨ (n : Int) ≤ x ∨ (0 ≤ x ∧ x < n ∧ y < 0) ∨ (0 ≤ x ∧ x < n ∧ 0 ≤ y ∧ (n : Int) ≤ y) := not_okp hokp
              clear hokp
              go_wp2
              all_goals go_ret
              all_goals exact EnumPost.no hbB
          · obtain ⟨k, rfl⟩ : ∃ k', k = k' + 1 := ⟨k - 1, by omega⟩
            obtain ⟨he0, he1⟩ := hcells k (by omega)
            have hf0 : wA.cell? ⟨b, o + k * 2, none⟩ = some (.int .i32 ks[k].1) := by rw [hbA.cell (p := ⟨b, o + k * 2, none⟩) hb]; exact he0
            have hf1 : wA.cell? ⟨b, o + k * 2 + 1, none⟩ = some (.int .i32 ks[k].2) := by rw [hbA.cell (p := ⟨b, o + k * 2 + 1, none⟩) hb]; exact he1
            have hi1 : (k : Int) + 1 - 1 = (k : Int) := by omega
            have hi2 : (k : Int) < (len : Int) := by omega
            have hi3 : (0 : Int) ≤ (k : Int) := by omega
            have hi6 : k < len := by omega
            have hi4 : (0 : Int) < (k : Int) + 1 := by omega
            have hi5 : decide ((0 : Int) < (k : Int) + 1) = true := decide_eq_true (by omega)
            have hwk : IntKind.i64.wrap (k : Int) = (k : Int) := wrap_i64 (by omega) (by omega)
            clear he0 he1 hcells
            go_region_with (go_at_call 31; refine (pless _ _ _ _ _).mono ?_; rintro e w2 ⟨r2, rfl, hb2⟩)
            all_goals
              replace hb2 := below_undrew hb2
              have hbB := hbA.trans (hb2.mono hbA.size)
              have hq0 : w2.cell? ⟨wr.heap.size, 0, none⟩ = some (.int .i32 x) := by rw [hb2.cell (p := ⟨wr.heap.size, 0, none⟩) (block_lt_of_cell hp0)]; exact hp0
              have hq1 : w2.cell? ⟨wr.heap.size, 1, none⟩ = some (.int .i32 y) := by rw [hb2.cell (p := ⟨wr.heap.size, 1, none⟩) (block_lt_of_cell hp1)]; exact hp1
              clear hb2 hp0 hp1 hf0 hf1
              cases r2
              · go_wp2
                go_ret
                exact EnumPost.no hbB
              · by_cases hokp : Okp n (x, y)
                · have HK2 : Hid (∀ j (h : j < ks.length), j < k + 1 + 1 → Okp n ks[j]) := HKS.out (HXY.out ▸ hokp)
                  obtain ⟨ho1, ho2, ho3, ho4⟩ := hokp
                  go_wp2
                  go_roundw
                  case rel => exact ⟨k + 1 + 1, by omega, by go_num, HK2, hbB⟩
                  case measure => simp [intOf]; omega
                · have ho : x < 0 ∨ (n : Int) ≤ x ∨ (0 ≤ x ∧ x < n ∧ y < 0) ∨ (0 ≤ x ∧ x < n ∧ 0 ≤ y ∧ (n : Int) ≤ y) := not_okp hokp
                  clear hokp
                  go_wp2
                  all_goals go_ret
                  all_goals exact EnumPost.no hbB
      · have hall := okp_all (k := k) (by have := hk.1; omega) HK.out
        clear hm hk
        go_wp2
        go_ret
        exact EnumPost.yes hall hbel
  · have hne : ((len : Int) != (sz : Int)) = true := by simp; omega
    clear hm hk
    go_enter Try.func9, Try.ntmps9
    go_wp2
    go_ret
    exact EnumPost.no (Below.refl _ _)

end Go.Proofs.Qxb6603019a.Keys
