/- The law FnMagnitudeSymmetric: the walk of ZZmagnitude, the plain law, the row. -/
import Derived.Test.Qxb6603004aRows
import Derived.WalkKit
import Derived.ProofKit
import Derived.OpenShut
import Derived.ShutString
namespace Go.Proofs.Qxb6603004a.fnMagnitudeSymmetric
open Go.ChangeShapes Go.WideShapes Go.ChangeAt Go.RowKit
open Go.ChangeMaps (open_string shut_string)
set_option linter.unusedVariables false      -- a walk need not use every 'w<i>' (that an integer argument fits its kind)

theorem own : ownKnob Try.prog.godebug = none := by kernel_rfl

/-! ### THE PLAIN LAW -/
/-- what 'magnitude' computes, in the walk's own words -/
def mag (a : Int) : Int := if a < 0 then IntKind.u64.wrap (-IntKind.u64.wrap a) else IntKind.u64.wrap a
theorem wrap_u64 (n : Int) : IntKind.u64.wrap n = n % 18446744073709551616 := by
  simp [IntKind.wrap, IntKind.signed, IntKind.bits]
theorem mag_neg {a : Int} (h : a < 0) : IntKind.u64.wrap (-IntKind.u64.wrap a) = mag a := by simp [mag, h]
theorem mag_pos {a : Int} (h : 0 ≤ a) : IntKind.u64.wrap a = mag a := by simp [mag, show ¬ a < 0 by omega]
theorem mag_abs {a : Int} (h : (Lit.int .i64 a).wf = true) : mag a = a.natAbs := by
  have hb := bounds_i64 h
  unfold mag
  simp only [wrap_u64]
  split <;> omega
theorem wf_neg (a : Int) : (Lit.int .i64 (wrap64 (-a))).wf = true := by
  simp only [Lit.wf, IntKind.min, IntKind.max, IntKind.signed, IntKind.bits, wrap64, Bool.and_eq_true, decide_eq_true_eq]
  simp
  omega
theorem mag_same {a : Int} (h : (Lit.int .i64 a).wf = true) : (mag a != mag (wrap64 (-a))) = false := by
  rw [mag_abs h, mag_abs (wf_neg a)]
  have hb := bounds_i64 h
  have e : (a.natAbs : Int) = ((wrap64 (-a)).natAbs : Int) := by unfold wrap64; omega
  rw [e]; simp
theorem mag_zero {a : Int} (h : (Lit.int .i64 a).wf = true) : (!(mag a == 0) == (a == 0)) = false := by
  rw [mag_abs h]
  by_cases e : a = 0
  · subst e; simp
  · have e2 : ((a.natAbs : Int) == 0) = false := by simp; omega
    have e3 : (a == 0) = false := by simpa using e
    rw [e2, e3]; rfl
theorem mag_le {a : Int} (h : (Lit.int .i64 a).wf = true) : decide (mag a ≤ 9223372036854775808) = true := by
  rw [mag_abs h]
  have hb := bounds_i64 h
  exact decide_eq_true (by omega)

/-! ### STEP 1: THE WALKS -/
theorem zzmag (a : Int) (w : World) :
    Calls Try.prog 18 #[.int .i64 a] w fun e w' => e = .returned (.int .u64 (mag a)) ∧ w' = w := by
  by_cases h : a < 0
  · have e := mag_neg h
    go_enter Try.func18, Try.ntmps18
    go_wp2
    go_ret
    exact ⟨rfl, rfl⟩
  · have e := mag_pos (a := a) (by omega)
    go_enter Try.func18, Try.ntmps18
    go_wp2
    go_ret
    exact ⟨rfl, rfl⟩

theorem walk (a0 : Int) (w0 : (Lit.int .i64 a0).wf = true) (w : World) :
    Calls Try.prog 7 #[.int .i64 a0] w fun e w' => e = .returned (.bool true) ∧ Grown w w' := by
  have e1 := mag_same w0
  have e2 := mag_zero w0
  have e3 := mag_le w0
  clear w0
  go_enter Try.func7, Try.ntmps7
  go_wp2_with (go_at_call 18; refine (zzmag _ _).mono ?_; rintro e w' ⟨rfl, rfl⟩)
  go_ret
  exact ⟨rfl, Grown.refl _⟩

/-! ### THE ROW's STEP: WRITTEN OUT: LEAVE IT -/
set_option maxRecDepth 100000 in
theorem lifted (os : Os) (started : os.Started) (H : Type) (enc : TypeId × Value → H) :
    ReturnsInHanded {} Try.checked os 7 .any (Rows.fnMagnitudeSymmetricSpec.pre6 enc Try.prog Try.f7 Rows.fnMagnitudeSymmetricRow.domain false) (Rows.fnMagnitudeSymmetricSpec.post enc Try.prog Try.f7 false true false false) := by
  refine returnsInHanded_of_change (C := Try.checked) own started (by kernel_rfl) Try.func7
    (ChangeSpec.witness6 (enc := enc) (C := Try.checked) false ⟨#[], #[.int .i64 0], []⟩ 8 (by kernel_rfl) (by kernel_rfl) (by kernel_rfl) (by kernel_rfl)) ?_
  intro W base args ds gs before hval0 hW hcnd _
  have hval : ∀ (j : Nat) t v, Try.f7.params[j]? = some t → args[j]? = some v → Value.okWide Try.prog W .any base t v := hval0
  have hW' := hW
  obtain ⟨p, q, hA0, hV, rfl, hfz, hnd⟩ := hW
  have hA : DataW.TrodAll enc Try.prog W 0 (fun _ => true) true Try.f7.params.toList args.toList ds p := hA0
  rw [Try.params7] at hA hval
  obtain ⟨v0, vs0, d0, ds0, p0, q0, hargs, rfl, rfl, h0, r0⟩ := trodAll_cons hA
  obtain ⟨rfl, rfl, rfl⟩ := trodAll_nil r0
  obtain rfl : args = #[v0] := by cases args; simp_all
  obtain ⟨rfl, rfl⟩ := trodVars_none hV
  obtain ⟨a0, rfl, rfl, rfl, w0⟩ := open_int Try.underlying2 (hval 0 2 v0 rfl rfl) h0
  clear hA0 hval0
  simp only [List.append_nil] at hW'
  refine (walk a0 w0 W).mono fun e W' ⟨he, hg⟩ => ?_
  subst he
  exact ⟨_, rfl, post_of_same (pa := []) (pv := []) hW' (fun _ _ _ => (trodAll_cons_mk (shut_bool Try.underlying4 _) trodAll_mk0)) (fun sp _ => (trodAll_cons_mk (shut_int Try.underlying2 w0) trodAll_mk0)) (fun _ _ => rfl) rfl
    (hg.frame _) hg.2.1 (ok_one (by kernel_rfl) rfl (okWide_bool_mk Try.underlying4 _))⟩

theorem over : Rows.fnMagnitudeSymmetricRow.holds Try.pinned (OpenSpec.ofChange Rows.fnMagnitudeSymmetricSpec) :=
  OpenClaim.holds_of_wide 7 Try.f7 rfl rfl rfl rfl rfl rfl rfl ⟨rfl, rfl, rfl, rfl, rfl⟩ rfl rfl rfl rfl rfl (by kernel_rfl) Try.func7 (by kernel_rfl)
    (of_decide_eq_true (by kernel_rfl)) (by unfold Func.isWrapper; first | (rw [if_pos (by decide +kernel)]; kernel_rfl) | (rw [if_neg (by decide +kernel)]; exact ⟨rfl, rfl⟩))
    (fun os started H enc _ => lifted os started H enc)

/-- ████ THE STATEMENT ████ -/
theorem proved : Rows.FnMagnitudeSymmetricSaid :=
  over
end Go.Proofs.Qxb6603004a.fnMagnitudeSymmetric
