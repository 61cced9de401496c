/- compEqual; FnComponentsMatchBFS: the walk, the row. -/
import Derived.Test.Qxb6603019aBfsA
import Derived.Test.Qxb6603019aOpen
namespace Go.Proofs.Qxb6603019a.fnComponentsMatchBFS
open Go.ChangeShapes Go.WideShapes Go.ChangeAt Go.RowKit
open Go.Proofs.Qxb6603019a.Lab Go.Proofs.Qxb6603019a.Root Go.Proofs.Qxb6603019a.Base Go.Proofs.Qxb6603019a.Comp Go.Proofs.Qxb6603019a.Keys Go.Proofs.Qxb6603019a.Clone Go.Proofs.Qxb6603019a.MergeA Go.Proofs.Qxb6603019a.Open

set_option maxHeartbeats 800000 in
theorem equal (g1 g2 n : Nat) (f : Nat → Nat) (w : World) (hn : n ≤ 65536) (h1 : Par w g1 n f) (h2 : Par w g2 n f) :
    Calls Try.prog 14 #[.slice (some ⟨g1, 0, none⟩) n n, .slice (some ⟨g2, 0, none⟩) n n] w fun e w' => e = .returned (.bool true) ∧ ∃ nq, w' = w.drewN nq := by
  go_enter Try.func14, Try.ntmps14
  go_wp2_with fail
  go_loopw [5] (fun i wr => ∃ k nq : Nat, k ≤ n ∧ i = .int .i64 k ∧ wr = w.drewN nq) (fun i _ => n - (intOf i).toNat)
  case atStart => exact ⟨0, 0, Nat.zero_le _, rfl, rfl⟩
  case round =>
    obtain ⟨k, nq, hk, rfl, rfl⟩ := hrel
    by_cases hlt : k < n
    · have e1 := World.rowIs.cell h1 hlt
      have e2 := World.rowIs.cell h2 hlt
      go_wp2_with fail
      go_quiet (fail)
      go_wp2
      go_roundw
      case rel => exact ⟨k + 1, _, by omega, by go_num, rfl⟩
      case measure => simp [intOf]; omega
    · go_wp2
      go_ret
      exact ⟨rfl, _, rfl⟩

set_option maxRecDepth 100000 in
set_option maxHeartbeats 1600000 in
theorem walk_in (n : Nat) (mo : Option Nat) (sz : Nat) (ao : Option Addr) (len cap : Nat) (ks : List (Int × Int)) (w : World) (hn : n ≤ 65536) (hl : len ≤ 65536) (hs : sz ≤ 65536) (hls : 8 * len + 16 * sz ≤ 1048576)
    (hm : MapOk w mo sz) (hk : KeysIs w ao len ks) :
    Calls Try.prog 3 #[.int .i64 n, .map mo, .slice ao len cap] w fun e w' => e = .returned (.bool true) ∧ Below w.heap.size w w' := by
  have hlen := (hm.2 w (Below.refl _ _)).1
  go_enter Try.func3, Try.ntmps3
  go_wp2_with fail
  refine (enum n mo sz ao len cap ks _ hn hl hs hm hk).mono ?_
  rintro e w1 ⟨r, rfl, hr, hbel1⟩
  cases r
  · go_wp2
    go_ret
    exact ⟨rfl, hbel1⟩
  · obtain ⟨rfl, hok⟩ := hr rfl
    have hk1 := keys_below hk hbel1
    have hm1 := mapOk_below hm hbel1
    clear hr hlen hm hk
    go_wp2_with fail
    refine (cloneKeys ao len cap ks _ hl hk1).mono ?_
    rintro e w2 ⟨a2, c2, rfl, hk2, hbel2⟩
    have hm2 := mapOk_below hm1 hbel2
    clear hk1 hm1
    go_wp2_with fail
    refine (copyAny n mo a2 len c2 ks _ hl hm2 hk2 hok).mono ?_
    rintro e w3 ⟨mo3, sz3, rfl, hmi3, hmo3, hbel3⟩
    have hk3 := keys_below hk2 hbel3
    clear hk2 hm2 hmo3
    go_wp2_with fail
    refine (door n mo3 (MergeA.Edge ks) _ hn hmi3).mono ?_
    rintro e w4 ⟨g1, f1, rfl, hg1, hpar1, hlab1, hbel4⟩
    have hk4 := keys_below hk3 hbel4
    have hb4 : Below w.heap.size w w4 := ((hbel1.trans (hbel2.mono hbel1.size)).trans (hbel3.mono (Nat.le_trans hbel1.size hbel2.size))).trans (hbel4.mono (Nat.le_trans (Nat.le_trans hbel1.size hbel2.size) hbel3.size))
    clear hk3 hmi3 hbel1 hbel2 hbel3 hbel4
    go_wp2_with fail
    refine (BfsA.bfs n a2 len c2 ks _ hn hl hk4 hok).mono ?_
    rintro e w5 ⟨g2, f2, rfl, hpar2, hlab2, hbel5⟩
    have hp1 : Par w5 g1 n f1 := World.rowIs.of_block hpar1 (hbel5.block g1 (World.rowIs.lt hpar1))
    have hp2 : Par w5 g2 n f1 := World.rowIs.congr hpar2 fun j hj => by rw [lab_unique hlab2 hlab1 j hj]
    have hB : Below w.heap.size w w5 := hb4.trans (hbel5.mono hb4.size)
    clear hpar1 hpar2 hlab1 hlab2 hb4 hbel5 hk4 hok
    go_wp2_with (go_at_call 14; refine (equal g1 g2 n f1 _ hn hp1 hp2).mono ?_; rintro e w6 ⟨rfl, nq, rfl⟩)
    go_ret
    exact ⟨rfl, below_drewN hB nq⟩

set_option maxRecDepth 100000 in
set_option maxHeartbeats 1600000 in
theorem walk (n : Int) (mo : Option Nat) (sz : Nat) (ao : Option Addr) (len cap : Nat) (ks : List (Int × Int)) (w : World) (wn : (Lit.int .i64 n).wf = true) (hlm : len ≤ maxLen)
    (hm : MapOk w mo sz) (hk : KeysIs w ao len ks) :
    Calls Try.prog 3 #[.int .i64 n, .map mo, .slice ao len cap] w fun e w' => e = .returned (.bool true) ∧ Below w.heap.size w w' := by
  have bn := bounds_i64 wn
  unfold maxLen at hlm
  have hlen := (hm.2 w (Below.refl _ _)).1
  clear wn
  by_cases c1 : 65536 < len
  · clear hm hk
    go_enter Try.func3, Try.ntmps3
    go_wp2
    go_ret
    exact ⟨rfl, Below.refl _ _⟩
  by_cases c2 : 65536 < sz
  · clear hm hk
    go_enter Try.func3, Try.ntmps3
    go_wp2
    go_ret
    exact ⟨rfl, Below.refl _ _⟩
  by_cases c3 : 1048576 < 8 * len + 16 * sz
  · clear hm hk
    go_enter Try.func3, Try.ntmps3
    go_wp2
    go_ret
    exact ⟨rfl, Below.refl _ _⟩
  by_cases c4 : n < 0 ∨ 65536 < n
  · clear hm hk
    go_enter Try.func3, Try.ntmps3
    go_wp2
    all_goals go_ret
    all_goals exact ⟨rfl, Below.refl _ _⟩
  obtain ⟨n', rfl⟩ : ∃ f : Nat, n = f := ⟨n.toNat, by omega⟩
  exact walk_in n' mo sz ao len cap ks w (by omega) (by omega) (by omega) (by omega) hm hk

set_option maxRecDepth 100000 in
theorem lifted (os : Os) (started : os.Started) (H : Type) (enc : TypeId × Value → H) :
    ReturnsInHanded {} Try.checked os 3 .any (Rows.fnComponentsMatchBFSSpec.pre6 enc Try.prog Try.f3 Rows.fnComponentsMatchBFSRow.domain false) (Rows.fnComponentsMatchBFSSpec.post enc Try.prog Try.f3 false true false false) := by
  refine returnsInHanded_of_change (C := Try.checked) own started (by kernel_rfl) Try.func3
    (ChangeSpec.witness6 (enc := enc) (C := Try.checked) false ⟨#[], #[.int .i64 0, .map none, .slice none 0 0], []⟩ 8 (by kernel_rfl) (by kernel_rfl) (by kernel_rfl) (by kernel_rfl)) ?_
  intro W base args ds gs before hval0 hW hcnd _
  have hval : ∀ (j : Nat) t v, Try.f3.params[j]? = some t → args[j]? = some v → Value.okWide Try.prog W .any base t v := hval0
  have hW' := hW
  obtain ⟨p, q, hA0, hV, rfl, hfz, hnd⟩ := hW
  have hA : DataW.TrodAll enc Try.prog W 0 (fun _ => true) true Try.f3.params.toList args.toList ds p := hA0
  rw [Try.params3] at hA hval
  obtain ⟨v0, vs0, d0, ds0, p0, q0, hargs, rfl, rfl, h0, r0⟩ := trodAll_cons hA
  obtain ⟨v1, vs1, d1, ds1, p1, q1, rfl, rfl, rfl, h1, r1⟩ := trodAll_cons r0
  obtain ⟨v2, vs2, d2, ds2, p2, q2, rfl, rfl, rfl, h2, r2⟩ := trodAll_cons r1
  obtain ⟨rfl, rfl, rfl⟩ := trodAll_nil r2
  obtain rfl : args = #[v0, v1, v2] := by cases args; simp_all
  obtain ⟨rfl, rfl⟩ := trodVars_none hV
  have k1 := h1
  have k2 := h2
  have lt1 : ∀ x ∈ p1, x.block < W.heap.size := by obtain ⟨m, hm⟩ := k1; exact DataW.trod_lt m _ _ _ hm
  have lt2 : ∀ x ∈ p2, x.block < W.heap.size := by obtain ⟨m, hm⟩ := k2; exact DataW.trod_lt m _ _ _ hm
  obtain ⟨n, rfl, rfl, rfl, wn⟩ := open_int Try.underlying3 (hval 0 3 v0 rfl rfl) h0
  obtain ⟨mo, sz, rfl, hmo⟩ := open_pairs_map (hval 1 22 v1 rfl rfl) h1
  obtain ⟨ao, len, cap, ks, rfl, hks, hlm⟩ := open_pairs (hval 2 23 v2 rfl rfl) h2
  clear hA0 hval0
  refine (walk n mo sz ao len cap ks W wn hlm hmo hks).mono fun e W' ⟨he, bel⟩ => ?_
  subst he
  exact ⟨_, rfl, _, _, _, [], _, [], hW', trodAll_mk1 (shut_bool Try.underlying4 _), (trodAll_cons_mk (shut_int Try.underlying3 wn) (trodAll_cons_mk (Below.trod laidOut (by kernel_rfl) (of_decide_eq_true (by kernel_rfl)) k1 bel lt1) (trodAll_cons_mk (Below.trod laidOut (by kernel_rfl) (of_decide_eq_true (by kernel_rfl)) k2 bel lt2) trodAll_mk0))), rfl, bel.frame _, fun h => by cases h⟩

theorem over : Rows.fnComponentsMatchBFSRow.holds Try.pinned (OpenSpec.ofChange Rows.fnComponentsMatchBFSSpec) :=
  OpenClaim.holds_of_wide 3 Try.f3 rfl rfl rfl rfl rfl rfl rfl ⟨rfl, rfl, rfl, rfl, rfl⟩ rfl rfl rfl rfl rfl (by kernel_rfl) Try.func3 (by kernel_rfl)
    (of_decide_eq_true (by kernel_rfl)) (by unfold Func.isWrapper; first | (rw [if_pos (by decide +kernel)]; kernel_rfl) | (rw [if_neg (by decide +kernel)]; exact ⟨rfl, rfl⟩))
    (fun os started H enc _ => lifted os started H enc)

/-- THE STATEMENT -/
theorem proved : Rows.FnComponentsMatchBFSSaid := over

end Go.Proofs.Qxb6603019a.fnComponentsMatchBFS
