/- The law FnDigitsValueSpec: the walk out of digitsValue's contract, the row. -/
import Derived.Test.Qxb6603004aRows
import Derived.Test.Qxb6603004aDv
import Derived.WalkKit
import Derived.ProofKit
import Derived.OpenShut
import Derived.ShutString
namespace Go.Proofs.Qxb6603004a.fnDigitsValueSpec
open Go.ChangeShapes Go.WideShapes Go.ChangeAt Go.RowKit
open Go.ChangeMaps (open_string shut_string)
open Go.Proofs.Qxb6603004a.Plain
set_option linter.unusedVariables false      -- a walk need not use every 'w<i>' (that an integer argument fits its kind)

theorem own : ownKnob Try.prog.godebug = none := by kernel_rfl

/-! ### THE PLAIN STEPS OF THE LAW'S LOOP -/
/-- the bytes from m up to t -/
def suf (s : ByteArray) (t m : Nat) : List UInt8 := (s.data.toList.take t).drop m
theorem suf_end (s : ByteArray) (t : Nat) : suf s t t = [] := by
  unfold suf; apply List.drop_eq_nil_of_le; simp; omega
theorem suf_step (s : ByteArray) (t m : Nat) (h : m < t) (ht : t ≤ s.size) : suf s t m = s[m] :: suf s t (m + 1) := by
  unfold suf
  have hl : m < (s.data.toList.take t).length := by have : s.data.size = s.size := rfl; simp; omega
  rw [List.drop_eq_getElem_cons hl]
  congr 1
  rw [List.getElem_take]
  rfl
theorem suf_len (s : ByteArray) (t m : Nat) (h : m ≤ t) (ht : t ≤ s.size) : (suf s t m).length = t - m := by
  unfold suf
  have : s.data.size = s.size := rfl
  simp; omega
theorem suf_all (s : ByteArray) (f t : Nat) : (s.data.toList.drop f).take (t - f) = suf s t f := by
  unfold suf; rw [List.drop_take]

theorem all_yes {c : UInt8} {r : List UInt8} (h : 48 ≤ (c.toNat : Int) ∧ (c.toNat : Int) ≤ 57) : allD (c :: r) = allD r := by rw [allD_cons, Dv.digB_yes h]; rfl
theorem all_no {c : UInt8} {r : List UInt8} (h : (c.toNat : Int) < 48 ∨ 57 < (c.toNat : Int)) : allD (c :: r) = false := by rw [allD_cons, Dv.digB_no h]; rfl
theorem sum_yes {c : UInt8} {r : List UInt8} (h : 48 ≤ (c.toNat : Int) ∧ (c.toNat : Int) ≤ 57) : sumR (c :: r) = wrap64 (sumR r + wrap64 (((c.toNat : Int) - 48) * wrap64 (10 ^ r.length))) := by simp [sumR, Dv.digB_yes h, dig]
theorem sum_no {c : UInt8} {r : List UInt8} (h : (c.toNat : Int) < 48 ∨ 57 < (c.toNat : Int)) : sumR (c :: r) = sumR r := by simp [sumR, Dv.digB_no h]

/-! ### STEP 1: THE WALK -/
set_option maxHeartbeats 800000 in
theorem walk_in (s : ByteArray) (f t : Nat) (w : World) (hs : s.size ≤ 65536) (h1 : f ≤ t) (h2 : t ≤ s.size) :
    Calls Try.prog 3 #[.string s, .int .i64 f, .int .i64 t] w fun e w' => e = .returned (.bool true) ∧ Below w.heap.size w w' := by
  have HL : Hid ((s.data.toList.drop f).take (t - f) = suf s t f) := suf_all s f t
  go_enter Try.func3, Try.ntmps3
  go_wp2_with (first | (go_at_call 9; go_in) | (go_at_call 10; refine (Dv.door s f t _ _ (by unfold maxLen; omega) h1 h2 HL).mono ?_; rintro e w' ⟨rfl, hb⟩))
  clear HL
  go_loop [9, 10, 11, 12] (fun al su p i => ∃ m : Nat, f ≤ m ∧ m ≤ t ∧ i = .int .i64 ((m : Int) - 1) ∧ al = .bool (allD (suf s t m)) ∧ su = .int .i64 (sumR (suf s t m)) ∧ p = .int .i64 (wrap64 (10 ^ (suf s t m).length))) (fun _ _ _ i => (intOf i + 1).toNat)
  case atStart => exact ⟨t, h1, Nat.le_refl _, rfl, by rw [suf_end]; rfl, by rw [suf_end]; rfl, by rw [suf_end]; simp [wrap64]⟩
  case round =>
    obtain ⟨m, hm1, hm2, rfl, rfl, rfl, rfl⟩ := hrel
    by_cases hlt : f < m
    · obtain ⟨m, rfl⟩ : ∃ k, m = k + 1 := ⟨m - 1, by omega⟩
      rw [show ((m + 1 : Nat) : Int) - 1 = (m : Int) by omega]
      have HS : Hid (suf s t m = s[m] :: suf s t (m + 1)) := suf_step s t m (by omega) h2
      generalize suf s t (m + 1) = r at HS ⊢
      have hms : m < s.size := by omega
      by_cases hd : 48 ≤ (s[m].toNat : Int) ∧ (s[m].toNat : Int) ≤ 57
      · obtain ⟨hd1, hd2⟩ := hd
        go_wp2
        go_round
        case rel =>
          refine ⟨_, _, _, _, ?_, rfl, rfl, rfl, rfl⟩
          exact ⟨m, by omega, by omega, rfl, by rw [HS.out, all_yes ⟨hd1, hd2⟩], by rw [HS.out, sum_yes ⟨hd1, hd2⟩], by rw [HS.out]; simp only [List.length_cons]; rw [step_pow]⟩
        case measure => simp [intOf]; omega
      · have hd' : (s[m].toNat : Int) < 48 ∨ 57 < (s[m].toNat : Int) := by omega
        clear hd
        rcases hd' with hd1 | hd2
        · go_wp2
          go_round
          case rel =>
            exact ⟨m, by omega, by omega, rfl, by rw [HS.out, all_no (.inl hd1)], by rw [HS.out, sum_no (.inl hd1)], by rw [HS.out]; simp only [List.length_cons]; rw [step_pow]⟩
          case measure => simp [intOf]
        · have hd3 : 48 ≤ (s[m].toNat : Int) := by omega
          go_wp2
          go_round
          case rel =>
            refine ⟨_, _, _, _, ?_, rfl, rfl, rfl, rfl⟩
            exact ⟨m, by omega, by omega, rfl, by rw [HS.out, all_no (.inr hd2)], by rw [HS.out, sum_no (.inr hd2)], by rw [HS.out]; simp only [List.length_cons]; rw [step_pow]⟩
          case measure => simp [intOf]; omega
    · obtain rfl : m = f := by omega
      generalize suf s t m = l
      cases hA : allD l
      · have e1 := dvN_none l hA
        go_wp2
        go_ret
        exact ⟨rfl, hb⟩
      · have e1 := dvN_eq_sum l hA
        go_wp2
        go_ret
        exact ⟨rfl, hb⟩

theorem walk (a0 : ByteArray) (a1 : Int) (a2 : Int) (w0 : a0.size ≤ maxLen) (w1 : (Lit.int .i64 a1).wf = true) (w2 : (Lit.int .i64 a2).wf = true) (w : World) :
    Calls Try.prog 3 #[.string a0, .int .i64 a1, .int .i64 a2] w fun e w' => e = .returned (.bool true) ∧ Below w.heap.size w w' := by
  unfold maxLen at w0
  by_cases c1 : 1048576 < a0.size
  · go_enter Try.func3, Try.ntmps3
    go_wp2
    go_ret
    exact ⟨rfl, Below.refl _ _⟩
  by_cases c2 : 65536 < a0.size
  · go_enter Try.func3, Try.ntmps3
    go_wp2
    go_ret
    exact ⟨rfl, Below.refl _ _⟩
  by_cases c3 : a2 ≤ a0.size
  · by_cases c4 : a1 < 0
    · go_enter Try.func3, Try.ntmps3
      go_wp2
      go_ret
      exact ⟨rfl, Below.refl _ _⟩
    by_cases c5 : a2 < a1
    · go_enter Try.func3, Try.ntmps3
      go_wp2
      go_ret
      exact ⟨rfl, Below.refl _ _⟩
    obtain ⟨f, rfl⟩ : ∃ f : Nat, a1 = f := ⟨a1.toNat, by omega⟩
    obtain ⟨t, rfl⟩ : ∃ t : Nat, a2 = t := ⟨a2.toNat, by omega⟩
    exact walk_in a0 f t w (by omega) (by omega) (by omega)
  · go_enter Try.func3, Try.ntmps3
    go_wp2_with (first | (go_at_call 9; go_in) | (go_at_call 10; refine (Dv.short _ _ _ _ (by omega)).mono ?_; rintro e w' ⟨rfl, rfl⟩))
    go_ret
    exact ⟨rfl, Below.refl _ _⟩

/-! ### THE ROW's STEP: WRITTEN OUT: LEAVE IT -/
set_option maxRecDepth 100000 in
theorem lifted (os : Os) (started : os.Started) (H : Type) (enc : TypeId × Value → H) :
    ReturnsInHanded {} Try.checked os 3 .any (Rows.fnDigitsValueSpecSpec.pre6 enc Try.prog Try.f3 Rows.fnDigitsValueSpecRow.domain false) (Rows.fnDigitsValueSpecSpec.post enc Try.prog Try.f3 false true false false) := by
  refine returnsInHanded_of_change (C := Try.checked) own started (by kernel_rfl) Try.func3
    (ChangeSpec.witness6 (enc := enc) (C := Try.checked) false ⟨#[], #[.string ByteArray.empty, .int .i64 0, .int .i64 0], []⟩ 8 (by kernel_rfl) (by kernel_rfl) (by kernel_rfl) (by kernel_rfl)) ?_
  intro W base args ds gs before hval0 hW hcnd _
  have hval : ∀ (j : Nat) t v, Try.f3.params[j]? = some t → args[j]? = some v → Value.okWide Try.prog W .any base t v := hval0
  have hW' := hW
  obtain ⟨p, q, hA0, hV, rfl, hfz, hnd⟩ := hW
  have hA : DataW.TrodAll enc Try.prog W 0 (fun _ => true) true Try.f3.params.toList args.toList ds p := hA0
  rw [Try.params3] at hA hval
  obtain ⟨v0, vs0, d0, ds0, p0, q0, hargs, rfl, rfl, h0, r0⟩ := trodAll_cons hA
  obtain ⟨v1, vs1, d1, ds1, p1, q1, rfl, rfl, rfl, h1, r1⟩ := trodAll_cons r0
  obtain ⟨v2, vs2, d2, ds2, p2, q2, rfl, rfl, rfl, h2, r2⟩ := trodAll_cons r1
  obtain ⟨rfl, rfl, rfl⟩ := trodAll_nil r2
  obtain rfl : args = #[v0, v1, v2] := by cases args; simp_all
  obtain ⟨rfl, rfl⟩ := trodVars_none hV
  obtain ⟨a0, rfl, rfl, rfl, w0⟩ := open_string Try.underlying9 (hval 0 9 v0 rfl rfl) h0
  obtain ⟨a1, rfl, rfl, rfl, w1⟩ := open_int Try.underlying3 (hval 1 3 v1 rfl rfl) h1
  obtain ⟨a2, rfl, rfl, rfl, w2⟩ := open_int Try.underlying3 (hval 2 3 v2 rfl rfl) h2
  clear hA0 hval0
  refine (walk a0 a1 a2 w0 w1 w2 W).mono fun e W' ⟨he, bel⟩ => ?_
  subst he
  exact ⟨_, rfl, _, _, _, [], _, [], hW', trodAll_mk1 (shut_bool Try.underlying4 _), (trodAll_cons_mk (shut_string Try.underlying9 w0) (trodAll_cons_mk (shut_int Try.underlying3 w1) (trodAll_cons_mk (shut_int Try.underlying3 w2) trodAll_mk0))), rfl, bel.frame _, fun h => by cases h⟩

theorem over : Rows.fnDigitsValueSpecRow.holds Try.pinned (OpenSpec.ofChange Rows.fnDigitsValueSpecSpec) :=
  OpenClaim.holds_of_wide 3 Try.f3 rfl rfl rfl rfl rfl rfl rfl ⟨rfl, rfl, rfl, rfl, rfl⟩ rfl rfl rfl rfl rfl (by kernel_rfl) Try.func3 (by kernel_rfl)
    (of_decide_eq_true (by kernel_rfl)) (by unfold Func.isWrapper; first | (rw [if_pos (by decide +kernel)]; kernel_rfl) | (rw [if_neg (by decide +kernel)]; exact ⟨rfl, rfl⟩))
    (fun os started H enc _ => lifted os started H enc)

/-- ████ THE STATEMENT ████ -/
theorem proved : Rows.FnDigitsValueSpecSaid :=
  over
end Go.Proofs.Qxb6603004a.fnDigitsValueSpec
