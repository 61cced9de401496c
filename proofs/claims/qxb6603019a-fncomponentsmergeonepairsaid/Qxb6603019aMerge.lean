/- The law FnComponentsMergeOnePair: the early ways, the row. -/
import Derived.Test.Qxb6603019aMergeB
import Derived.Test.Qxb6603019aOpen
namespace Go.Proofs.Qxb6603019a.fnComponentsMergeOnePair
open Go.ChangeShapes Go.WideShapes Go.ChangeAt Go.RowKit
open Go.Proofs.Qxb6603019a.Base Go.Proofs.Qxb6603019a.Keys Go.Proofs.Qxb6603019a.Open

set_option maxRecDepth 100000 in
set_option maxHeartbeats 1600000 in
theorem walk (n : Int) (mo : Option Nat) (sz : Nat) (ao : Option Addr) (len cap : Nat) (ks : List (Int × Int)) (a b : Int) (w : World) (wn : (Lit.int .i64 n).wf = true) (wa : (Lit.int .i32 a).wf = true) (wb : (Lit.int .i32 b).wf = true) (hlm : len ≤ maxLen)
    (hm : MapOk w mo sz) (hk : KeysIs w ao len ks) :
    Calls Try.prog 4 #[.int .i64 n, .map mo, .slice ao len cap, .int .i32 a, .int .i32 b] w fun e w' => e = .returned (.bool true) ∧ Below w.heap.size w w' := by
  have bn := bounds_i64 wn
  have ba := bounds_i32 wa
  have bb := bounds_i32 wb
  unfold maxLen at hlm
  have hlen := (hm.2 w (Below.refl _ _)).1
  clear wn wa wb
  by_cases c1 : 65536 < len
  · clear hm hk
    go_enter Try.func4, Try.ntmps4
    go_wp2
    go_ret
    exact ⟨rfl, Below.refl _ _⟩
  by_cases c2 : 65536 < sz
  · clear hm hk
    go_enter Try.func4, Try.ntmps4
    go_wp2
    go_ret
    exact ⟨rfl, Below.refl _ _⟩
  by_cases c3 : 1048576 < 8 * len + 16 * sz
  · clear hm hk
    go_enter Try.func4, Try.ntmps4
    go_wp2
    go_ret
    exact ⟨rfl, Below.refl _ _⟩
  by_cases c4 : n < 0 ∨ 65536 < n
  · clear hm hk
    go_enter Try.func4, Try.ntmps4
    go_wp2
    all_goals go_ret
    all_goals exact ⟨rfl, Below.refl _ _⟩
  by_cases c5 : a < 0 ∨ n ≤ a ∨ b < 0 ∨ n ≤ b
  · clear hm hk
    have c4' : 0 ≤ n ∧ n ≤ 65536 := by omega
    clear c4
    go_enter Try.func4, Try.ntmps4
    go_wp2
    all_goals go_ret
    all_goals exact ⟨rfl, Below.refl _ _⟩
  obtain ⟨n', rfl⟩ : ∃ f : Nat, n = f := ⟨n.toNat, by omega⟩
  obtain ⟨a', rfl⟩ : ∃ f : Nat, a = f := ⟨a.toNat, by omega⟩
  obtain ⟨b', rfl⟩ : ∃ f : Nat, b = f := ⟨b.toNat, by omega⟩
  exact MergeB.walk_in n' mo sz ao len cap ks a' b' w (by omega) (by omega) (by omega) (by omega) (by omega) (by omega) hm hk

set_option maxRecDepth 100000 in
theorem lifted (os : Os) (started : os.Started) (H : Type) (enc : TypeId × Value → H) :
    ReturnsInHanded {} Try.checked os 4 .any (Rows.fnComponentsMergeOnePairSpec.pre6 enc Try.prog Try.f4 Rows.fnComponentsMergeOnePairRow.domain false) (Rows.fnComponentsMergeOnePairSpec.post enc Try.prog Try.f4 false true false false) := by
  refine returnsInHanded_of_change (C := Try.checked) own started (by kernel_rfl) Try.func4
    (ChangeSpec.witness6 (enc := enc) (C := Try.checked) false ⟨#[], #[.int .i64 0, .map none, .slice none 0 0, .int .i32 0, .int .i32 0], []⟩ 8 (by kernel_rfl) (by kernel_rfl) (by kernel_rfl) (by kernel_rfl)) ?_
  intro W base args ds gs before hval0 hW hcnd _
  have hval : ∀ (j : Nat) t v, Try.f4.params[j]? = some t → args[j]? = some v → Value.okWide Try.prog W .any base t v := hval0
  have hW' := hW
  obtain ⟨p, q, hA0, hV, rfl, hfz, hnd⟩ := hW
  have hA : DataW.TrodAll enc Try.prog W 0 (fun _ => true) true Try.f4.params.toList args.toList ds p := hA0
  rw [Try.params4] at hA hval
  obtain ⟨v0, vs0, d0, ds0, p0, q0, hargs, rfl, rfl, h0, r0⟩ := trodAll_cons hA
  obtain ⟨v1, vs1, d1, ds1, p1, q1, rfl, rfl, rfl, h1, r1⟩ := trodAll_cons r0
  obtain ⟨v2, vs2, d2, ds2, p2, q2, rfl, rfl, rfl, h2, r2⟩ := trodAll_cons r1
  obtain ⟨v3, vs3, d3, ds3, p3, q3, rfl, rfl, rfl, h3, r3⟩ := trodAll_cons r2
  obtain ⟨v4, vs4, d4, ds4, p4, q4, rfl, rfl, rfl, h4, r4⟩ := trodAll_cons r3
  obtain ⟨rfl, rfl, rfl⟩ := trodAll_nil r4
  obtain rfl : args = #[v0, v1, v2, v3, v4] := by cases args; simp_all
  obtain ⟨rfl, rfl⟩ := trodVars_none hV
  have k1 := h1
  have k2 := h2
  have lt1 : ∀ x ∈ p1, x.block < W.heap.size := by obtain ⟨m, hm⟩ := k1; exact DataW.trod_lt m _ _ _ hm
  have lt2 : ∀ x ∈ p2, x.block < W.heap.size := by obtain ⟨m, hm⟩ := k2; exact DataW.trod_lt m _ _ _ hm
  obtain ⟨n, rfl, rfl, rfl, wn⟩ := open_int Try.underlying3 (hval 0 3 v0 rfl rfl) h0
  obtain ⟨mo, sz, rfl, hmo⟩ := open_pairs_map (hval 1 22 v1 rfl rfl) h1
  obtain ⟨ao, len, cap, ks, rfl, hks, hlm⟩ := open_pairs (hval 2 23 v2 rfl rfl) h2
  obtain ⟨a, rfl, rfl, rfl, wa⟩ := open_int Try.underlying21 (hval 3 21 v3 rfl rfl) h3
  obtain ⟨b, rfl, rfl, rfl, wb⟩ := open_int Try.underlying21 (hval 4 21 v4 rfl rfl) h4
  clear hA0 hval0
  refine (walk n mo sz ao len cap ks a b W wn wa wb hlm hmo hks).mono fun e W' ⟨he, bel⟩ => ?_
  subst he
  exact ⟨_, rfl, _, _, _, [], _, [], hW', trodAll_mk1 (shut_bool Try.underlying4 _), (trodAll_cons_mk (shut_int Try.underlying3 wn) (trodAll_cons_mk (Below.trod laidOut (by kernel_rfl) (of_decide_eq_true (by kernel_rfl)) k1 bel lt1) (trodAll_cons_mk (Below.trod laidOut (by kernel_rfl) (of_decide_eq_true (by kernel_rfl)) k2 bel lt2) (trodAll_cons_mk (shut_int Try.underlying21 wa) (trodAll_cons_mk (shut_int Try.underlying21 wb) trodAll_mk0))))), rfl, bel.frame _, fun h => by cases h⟩

theorem over : Rows.fnComponentsMergeOnePairRow.holds Try.pinned (OpenSpec.ofChange Rows.fnComponentsMergeOnePairSpec) :=
  OpenClaim.holds_of_wide 4 Try.f4 rfl rfl rfl rfl rfl rfl rfl ⟨rfl, rfl, rfl, rfl, rfl⟩ rfl rfl rfl rfl rfl (by kernel_rfl) Try.func4 (by kernel_rfl)
    (of_decide_eq_true (by kernel_rfl)) (by unfold Func.isWrapper; first | (rw [if_pos (by decide +kernel)]; kernel_rfl) | (rw [if_neg (by decide +kernel)]; exact ⟨rfl, rfl⟩))
    (fun os started H enc _ => lifted os started H enc)

/-- THE STATEMENT -/
theorem proved : Rows.FnComponentsMergeOnePairSaid := over

end Go.Proofs.Qxb6603019a.fnComponentsMergeOnePair
