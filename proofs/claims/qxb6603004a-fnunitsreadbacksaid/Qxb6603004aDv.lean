/- The walks of digitsValue and its door ZZdigitsValue. -/
import Derived.Test.Qxb6603004aRows
import Derived.Test.Qxb6603004aPlain
import Derived.WalkKit
import Derived.Laws.IdiomStrings
import Derived.Laws.DeepStrings4
namespace Go.Proofs.Qxb6603004a.Dv
open Go.RowKit Go.Proofs.Qxb6603004a.Plain

/-- s is shorter than 'to' -/
theorem short (s : ByteArray) (f t : Int) (w : World) (h : (s.size : Int) < t) :
    Calls Try.prog 10 #[.string s, .int .i64 f, .int .i64 t] w fun e w' => e = .returned (.tuple #[.int .i64 0, .bool false]) ∧ w' = w := by
  go_enter Try.func10, Try.ntmps10
  go_wp2
  go_ret2
  exact ⟨rfl, rfl⟩

theorem toList_extract (s : ByteArray) (f t : Nat) : (s.extract f t).data.toList = (s.data.toList.drop f).take (t - f) := by
  simp [ByteArray.data_extract]

/-- the cells of the new row -/
theorem row_cell (w : World) (s : ByteArray) (cap : Nat) (m : Nat × Nat) (l : List UInt8) (hl : s.data.toList = l) (k : Nat) (hk : k < l.length) :
    (w.alloc (.cells (bytesRow s cap) 5 m)).cell? ⟨w.heap.size, k, none⟩ = some (.int .u8 (l[k].toNat : Int)) := by
  subst hl
  rw [World.cell?_alloc_mark, bytesRow_at s cap k (by simpa using hk)]
  simp

theorem dv_bad {l : List UInt8} {k : Nat} {c : UInt8} (HS : Hid (l.take (k + 1) = l.take k ++ [c])) (h : digB c = false) : dvN l = 0 ∧ allD l = false := by
  have e : allD l = false := by
    have : l = l.take (k + 1) ++ l.drop (k + 1) := (List.take_append_drop _ _).symm
    rw [this, allD_append, HS.out, allD_snoc, h]; simp
  exact ⟨dvN_none l e, e⟩
theorem dv_good {l : List UInt8} {k n : Nat} (HA : Hid (allD (l.take k) = true)) (hl : l.length = n) (hk : n ≤ k) : wrap64 (valL (l.take k)) = dvN l ∧ allD l = true := by
  have e : l.take k = l := List.take_of_length_le (by omega)
  have h := HA.out
  rw [e] at h ⊢
  exact ⟨by simp [dvN, h], h⟩
theorem digB_no {c : UInt8} (h : (c.toNat : Int) < 48 ∨ 57 < (c.toNat : Int)) : digB c = false := by
  rw [Bool.eq_false_iff]; simp only [digB, ne_eq, Bool.and_eq_true, decide_eq_true_eq]; omega
theorem digB_yes {c : UInt8} (h : 48 ≤ (c.toNat : Int) ∧ (c.toNat : Int) ≤ 57) : digB c = true := by
  simp only [digB, Bool.and_eq_true, decide_eq_true_eq]; exact h
theorem ret_pair {a b : Int} {x y : Bool} (h : a = b) (k : x = y) : Ending.returned (.tuple #[.int .i64 a, .bool x]) = .returned (.tuple #[.int .i64 b, .bool y]) := by rw [h, k]

set_option maxHeartbeats 400000 in
theorem inner (s : ByteArray) (f t : Nat) (l : List UInt8) (w : World) (hs : s.size ≤ maxLen) (h1 : f ≤ t) (h2 : t ≤ s.size) (HL : Hid ((s.data.toList.drop f).take (t - f) = l)) :
    Calls Try.prog 19 #[.string s, .int .i64 f, .int .i64 t] w fun e w' => e = .returned (.tuple #[.int .i64 (dvN l), .bool (allD l)]) ∧ Below w.heap.size w w' := by
  have hconv := fun (W : World) (z : ByteArray) => run_bytes_of_string (P := Try.prog) W 9 26 5 z Try.underlying9 Try.underlying26 Try.underlying5
  have hc := fun cap m => row_cell w (s.extract f t) cap m l ((toList_extract s f t).trans HL.out)
  have hll : l.length = t - f := by rw [← HL.out]; simp; omega
  clear HL
  unfold maxLen at hs
  go_enter Try.func19, Try.ntmps19
  go_wp2_with fail
  have hcell := hc (grownCap w (t - f) 0 5) ((bytesRow (s.extract f t) (grownCap w (t - f) 0 5)).size, (bytesRow (s.extract f t) (grownCap w (t - f) 0 5)).size + 1)
  have hbel : Below w.heap.size w (w.alloc (.cells (bytesRow (s.extract f t) (grownCap w (t - f) 0 5)) 5 ((bytesRow (s.extract f t) (grownCap w (t - f) 0 5)).size, (bytesRow (s.extract f t) (grownCap w (t - f) 0 5)).size + 1))) := (Below.refl _ _).alloc (Nat.le_refl _) _
  clear hc hconv
  generalize (w.alloc (.cells (bytesRow (s.extract f t) (grownCap w (t - f) 0 5)) 5 ((bytesRow (s.extract f t) (grownCap w (t - f) 0 5)).size, (bytesRow (s.extract f t) (grownCap w (t - f) 0 5)).size + 1))) = W at hcell hbel ⊢
  generalize grownCap w (t - f) 0 5 = cap
  obtain ⟨n, hn⟩ : ∃ n, n = t - f := ⟨_, rfl⟩
  rw [← hn] at hll ⊢
  have hn2 : n ≤ 9223372036854775807 := by omega
  clear hn h1 h2 hs
  go_loop [8, 21] (fun v i => ∃ k : Nat, k ≤ n ∧ i = .int .i64 k ∧ v = .int .i64 (wrap64 (valL (l.take k))) ∧ Hid (allD (l.take k) = true)) (fun _ i => n - (intOf i).toNat)
  case atStart => exact ⟨0, Nat.zero_le _, rfl, by simp [valL, wrap64], rfl⟩
  case round =>
    obtain ⟨k, hk, rfl, rfl, HA⟩ := hrel
    by_cases hlt : k < n
    · have hck := hcell k (by omega)
      have HS : Hid (l.take (k + 1) = l.take k ++ [l[k]]) := take_snoc l k (by omega)
      clear hcell
      generalize l[k] = c at hck HS
      have hc0 : (0 : Int) ≤ c.toNat := by omega
      have hc1 : (c.toNat : Int) ≤ 255 := by have := c.toNat_lt; omega
      by_cases hd : 48 ≤ (c.toNat : Int) ∧ (c.toNat : Int) ≤ 57
      · obtain ⟨hd1, hd2⟩ := hd
        go_wp2
        go_round
        case rel =>
          refine ⟨_, _, _, _, _, ?_, rfl, rfl, rfl, rfl, rfl⟩
          exact ⟨k + 1, by omega, by go_num, by rw [HS.out, ← step_fwd]; rfl, by show _ = true; rw [HS.out, allD_snoc, HA.out, digB_yes ⟨hd1, hd2⟩]; rfl⟩
        case measure => simp [intOf]; omega
      · obtain ⟨hb1, hb2⟩ := dv_bad HS (digB_no (by omega))
        have HB : Hid (dvN l = 0 ∧ allD l = false) := ⟨hb1, hb2⟩
        clear hb1 hb2
        by_cases hd1 : (c.toNat : Int) < 48
        · go_wp2
          go_ret2
          exact ⟨ret_pair HB.out.1.symm HB.out.2.symm, hbel.drew⟩
        · have hd2 : 57 < (c.toNat : Int) := by omega
          clear hd
          go_wp2
          go_ret2
          exact ⟨ret_pair HB.out.1.symm HB.out.2.symm, hbel.drew⟩
    · have HG : Hid (wrap64 (valL (l.take k)) = dvN l ∧ allD l = true) := dv_good HA hll (by omega)
      go_wp2
      go_ret2
      exact ⟨ret_pair HG.out.1 HG.out.2.symm, hbel.drew⟩

/-- the door -/
theorem door (s : ByteArray) (f t : Nat) (l : List UInt8) (w : World) (hs : s.size ≤ maxLen) (h1 : f ≤ t) (h2 : t ≤ s.size) (HL : Hid ((s.data.toList.drop f).take (t - f) = l)) :
    Calls Try.prog 10 #[.string s, .int .i64 f, .int .i64 t] w fun e w' => e = .returned (.tuple #[.int .i64 (dvN l), .bool (allD l)]) ∧ Below w.heap.size w w' := by
  go_enter Try.func10, Try.ntmps10
  go_wp2_with (go_at_call 19; refine (inner s f t l _ hs h1 h2 HL).mono ?_; rintro e w' ⟨rfl, hb⟩)
  go_ret2
  exact ⟨rfl, hb⟩

end Go.Proofs.Qxb6603004a.Dv
