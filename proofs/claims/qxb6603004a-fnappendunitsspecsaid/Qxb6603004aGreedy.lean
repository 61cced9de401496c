/- The walk of greedyDigits. -/
import Derived.Test.Qxb6603004aUnits
import Derived.Test.Qxb6603004aGreedyPlain
namespace Go.Proofs.Qxb6603004a.Greedy
open Go.RowKit Go.Proofs.Qxb6603004a.Plain Go.Proofs.Qxb6603004a.Bytes Go.Proofs.Qxb6603004a.Units

theorem nine {y c P r : Nat} (e : y + c * P = r) (hr : r < 10 * P) (h : P ≤ y) : c + 1 ≤ 9 := by
  rcases Nat.lt_or_ge c 9 with h9 | h9
  · exact h9
  · exfalso
    have : 9 * P ≤ c * P := Nat.mul_le_mul_right _ h9
    omega
theorem left {u k r P y c : Nat} (HR : r = u % 10 ^ (k + 1)) (HP : P = pw (k + 1)) (e : y + c * P = r) (h : ¬ P ≤ y) : c = u / 10 ^ k % 10 ∧ y = u % 10 ^ k := by
  have HP2 : P = 10 ^ k := HP
  subst HR HP2
  have := greedy_step (u := u) (k := k) (c := c) (by omega) (by omega)
  exact ⟨this.1, by rw [← this.2]; omega⟩

theorem put_step {u k c : Nat} {x : Int} {B : Nat} {v' : Value} {w2 : World} (hu : u ≤ 9223372036854775807) (hc : c = u / 10 ^ k % 10) (h : u / 10 ^ k ≠ 0 ∨ k = 0) (hx : x = 48 + c)
    (hown : w2.ownsRow B 5 1 v' ((gd u (k + 1)).length + 1) (byteCells (gd u (k + 1)) ++ [.int .u8 x])) : w2.ownsRow B 5 1 v' (gd u k).length (byteCells (gd u k)) := by
  have e := gd_yes hu hc h
  have e2 : byteCells (gd u k) = byteCells (gd u (k + 1)) ++ [.int .u8 x] := by
    rw [e, byteCells, List.map_append, hx]
    simp only [byteCells, List.map_cons, List.map_nil]
    rw [dg_toInt (by omega)]
  rw [e2, e, List.length_append]
  exact hown
theorem pw_div {P k : Nat} (h : P = pw (k + 1)) : P / 10 = pw k := by
  rw [h]
  cases k with
  | zero => rfl
  | succ k => simp only [pw]; rw [Nat.pow_succ]; omega
theorem pos_of_c {u k c : Nat} (hc : c = u / 10 ^ k % 10) (h : 0 < c) : 0 < u / 10 ^ k := by
  generalize u / 10 ^ k = q at hc ⊢
  omega
theorem pos_of_b {u k : Nat} (hb : k + 1 ≠ 0 → true = decide (0 < u / 10 ^ (k + 1))) : 0 < u / 10 ^ k := by
  have := hb (by omega)
  rw [div_succ] at this
  generalize u / 10 ^ k = q at *
  have := this.symm
  simp at this
  omega
theorem zero_of_b {u k : Nat} (hc : 0 = u / 10 ^ k % 10) (hb : k + 1 ≠ 0 → false = decide (0 < u / 10 ^ (k + 1))) : u / 10 ^ k = 0 := by
  have := hb (by omega)
  rw [div_succ] at this
  generalize u / 10 ^ k = q at *
  have := this.symm
  simp at this
  omega
theorem k_zero {P k : Nat} (h : P = pw (k + 1)) (h1 : P = 1) : k = 0 := by
  rcases k with _ | k
  · rfl
  · exfalso
    have : P = 10 ^ (k + 1) := h
    rw [Nat.pow_succ] at this
    have := Nat.pow_pos (n := k) (show 0 < 10 by omega)
    omega
theorem k_pos {P k : Nat} (h : P = pw (k + 1)) (h1 : ¬ P = 1) : k ≠ 0 := by
  rintro rfl
  exact h1 h

set_option maxHeartbeats 800000 in
theorem greedy (u : Nat) (w : World) (hu : u ≤ 9223372036854775807) :
    Calls Try.prog 20 #[.int .i64 u] w fun e w' => ∃ v, e = .returned v ∧ w'.ownsRow w.heap.size 5 1 v (whole 19 u).length (byteCells (whole 19 u)) ∧ Below w.heap.size w w' := by
  obtain ⟨i0, hi, hi0, hi1, hi2⟩ := info_parts Try.info5
  go_enter Try.func20, Try.ntmps20
  go_wp2_with (at_make; refine wpList_make_own _ rfl _ _ 26 rfl w.heap.size 5 i0 (.int .u8 0) 1 Try.underlying26 hi hi0 hi1 .i64 .i64 19 19 rfl rfl rfl (by rw [hi2]; decide) (by decide) (Nat.le_refl _) ?_; intro w1 hown hgrow)
  have hbel : Below w.heap.size w w1 := (Below.refl _ _).grown hgrow (Nat.le_refl _) (fun k h => by cases h)
  clear hgrow
  go_loopw [0, 3, 4, 5, 6] (fun x v p st d wr => ∃ k r P : Nat, ∃ b : Bool, k ≤ 19 ∧ p = .int .i64 P ∧ Hid (P = pw k) ∧ x = .int .i64 r ∧ Hid (r = u % 10 ^ k) ∧ st = .bool b ∧ Hid (k ≠ 0 → b = decide (0 < u / 10 ^ k)) ∧
      wr.ownsRow w.heap.size 5 1 v (gd u k).length (byteCells (gd u k)) ∧ Below w.heap.size w wr) (fun _ _ p _ _ _ => (intOf p).toNat)
  case atStart => exact ⟨19, u, 1000000000000000000, false, Nat.le_refl _, rfl, rfl, rfl, (Nat.mod_eq_of_lt (lt_pow hu _ (by omega))).symm, rfl, fun _ => by rw [Nat.div_eq_of_lt (lt_pow hu _ (by omega))]; rfl, by rw [gd_start hu]; exact hown, hbel⟩
  case round =>
    clear hown hbel
    obtain ⟨k, r, P, b, hk, rfl, HP, rfl, HR, rfl, HB, hown, hbel⟩ := hrel
    rcases k with _ | k
    · obtain rfl : P = 0 := HP.out
      rw [gd_zero] at hown
      go_wp2
      go_ret
      exact ⟨_, rfl, hown, hbel⟩
    · have hP0 : 0 < P := by rw [HP.out]; exact Nat.pow_pos (by omega)
      have hP1 : P ≤ 1000000000000000000 := by rw [HP.out]; exact Nat.pow_le_pow_right (n := 10) (j := 18) (by omega) (by omega)
      have hr : r < 10 * P := by rw [HR.out, HP.out, Nat.mul_comm, pw, ← Nat.pow_succ]; exact Nat.mod_lt _ (Nat.pow_pos (by omega))
      go_wp2_with fail
      go_loop [0, 6] (fun x d => ∃ c y : Nat, c ≤ 9 ∧ d = .int .u8 c ∧ x = .int .i64 y ∧ y ≤ r ∧ Hid (y + c * P = r)) (fun x _ => (intOf x).toNat)
      case atStart => exact ⟨0, r, by omega, rfl, rfl, Nat.le_refl _, by show _ = _; simp⟩
      case round =>
        obtain ⟨c, y, hc, rfl, rfl, hy, HE⟩ := hrel
        have hr2 : r < 10000000000000000000 := by omega
        by_cases hlt : P ≤ y
        · have hc2 := nine HE.out hr hlt
          go_wp2_with fail
          go_round
          case rel => exact ⟨c + 1, y - P, by omega, by go_num, by go_num, by omega, by show _ = _; rw [← HE.out, Nat.succ_mul]; omega⟩
          case measure => simp [intOf]; omega
        · obtain ⟨hc3, hy3⟩ := left HR.out HP.out HE.out hlt
          have HC : Hid (c = u / 10 ^ k % 10 ∧ y = u % 10 ^ k) := ⟨hc3, hy3⟩
          clear hc3 hy3
          have hcc : (dg c).toNat = 48 + c := dg_toNat (by omega)
          have hgl := gd_len (k := k + 1) hu
          by_cases hcz : 0 < c
          · go_wp2_with (at_builtin; refine wpList_append_own _ rfl (.tmp 27) (.tmp 30) 26 rfl w.heap.size 5 i0 (.int .u8 0) 1 1 Try.underlying26 hi hi0 hi1 hi2 rfl (by decide) _ _ _ rfl (hown.alloc _) ⟨wr.heap.size, 0, none⟩ 1 1 [.int .u8 (48 + c)] rfl rfl (cell_one_new _ _ _) (by intro q hq; simp at hq; subst hq; rfl) (by unfold maxLen; omega) (by omega) (by have := hbel.size; simp; omega) ?_; intro v' w2 hown2 hgrow2 _)
            have hg0 := pos_of_c HC.out.1 hcz
            have hb2 := (hbel.alloc (hbel.size) (.cells #[.int .u8 (48 + c)] 5)).grown hgrow2 (by have := hbel.size; simp; omega) (fun k h => (hown.lt k h).1)
            have hown3 := put_step hu HC.out.1 (.inl (Nat.ne_of_gt hg0)) rfl hown2
            clear hgrow2 hown2 hown
            go_wp2
            go_roundw
            case rel => exact ⟨k, y, P / 10, true, by omega, by go_num, pw_div HP.out, rfl, HC.out.2, rfl, fun _ => by simp [hg0], hown3, hb2⟩
            case measure => simp [intOf]; omega
          · obtain rfl : c = 0 := by omega
            clear hcz
            cases b
            · by_cases hP2 : P = 1
              · have hp1 : ((P : Int) == 1) = true := by simp; omega
                obtain rfl := k_zero HP.out hP2
                clear hP2
                go_wp2_with (at_builtin; refine wpList_append_own _ rfl (.tmp 27) (.tmp 30) 26 rfl w.heap.size 5 i0 (.int .u8 0) 1 1 Try.underlying26 hi hi0 hi1 hi2 rfl (by decide) _ _ _ rfl (hown.alloc _) ⟨wr.heap.size, 0, none⟩ 1 1 [.int .u8 (48)] rfl rfl (cell_one_new _ _ _) (by intro q hq; simp at hq; subst hq; rfl) (by unfold maxLen; omega) (by omega) (by have := hbel.size; simp; omega) ?_; intro v' w2 hown2 hgrow2 _)
                have hb2 := (hbel.alloc (hbel.size) (.cells #[.int .u8 48] 5)).grown hgrow2 (by have := hbel.size; simp; omega) (fun k h => (hown.lt k h).1)
                have hown3 := put_step hu HC.out.1 (.inr rfl) rfl hown2
                clear hgrow2 hown2 hown
                go_wp2
                go_roundw
                case rel => exact ⟨0, y, P / 10, true, by omega, by go_num, pw_div HP.out, rfl, HC.out.2, rfl, fun h => absurd rfl h, hown3, hb2⟩
                case measure => simp [intOf]; omega
              · have hp1 : ((P : Int) == 1) = false := by simp; omega
                have hk0 := k_pos HP.out hP2
                have HZ : Hid (u / 10 ^ k = 0) := zero_of_b HC.out.1 HB.out
                clear hP2
                go_wp2
                go_roundw
                case rel => exact ⟨k, y, P / 10, false, by omega, by go_num, pw_div HP.out, rfl, HC.out.2, rfl, fun _ => by rw [HZ.out]; rfl, by rw [gd_no HZ.out hk0]; exact hown, hbel⟩
                case measure => simp [intOf]; omega
            · go_wp2_with (at_builtin; refine wpList_append_own _ rfl (.tmp 27) (.tmp 30) 26 rfl w.heap.size 5 i0 (.int .u8 0) 1 1 Try.underlying26 hi hi0 hi1 hi2 rfl (by decide) _ _ _ rfl (hown.alloc _) ⟨wr.heap.size, 0, none⟩ 1 1 [.int .u8 (48)] rfl rfl (cell_one_new _ _ _) (by intro q hq; simp at hq; subst hq; rfl) (by unfold maxLen; omega) (by omega) (by have := hbel.size; simp; omega) ?_; intro v' w2 hown2 hgrow2 _)
              have hg0 := pos_of_b HB.out
              have hb2 := (hbel.alloc (hbel.size) (.cells #[.int .u8 48] 5)).grown hgrow2 (by have := hbel.size; simp; omega) (fun k h => (hown.lt k h).1)
              have hown3 := put_step hu HC.out.1 (.inl (Nat.ne_of_gt hg0)) rfl hown2
              clear hgrow2 hown2 hown
              go_wp2
              go_roundw
              case rel => exact ⟨k, y, P / 10, true, by omega, by go_num, pw_div HP.out, rfl, HC.out.2, rfl, fun _ => by simp [hg0], hown3, hb2⟩
              case measure => simp [intOf]; omega

end Go.Proofs.Qxb6603004a.Greedy
