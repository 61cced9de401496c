/- FnReachesFollowTheirSources: the arguments opened, the row. -/
import Derived.Test.Qxb6603019aGridE
import Derived.ProofKit
import Derived.OpenShut
import Derived.ChangeSlices
import Derived.Deep.Matrix
namespace Go.Proofs.Qxb6603019a.fnReachesFollowTheirSources
open Go.ChangeShapes Go.WideShapes Go.ChangeAt Go.RowKit
open Go.Proofs.Qxb6603019a.GridPlain Go.Proofs.Qxb6603019a.GridA Go.Proofs.Qxb6603019a.GridC Go.Proofs.Qxb6603019a.GridE

theorem own : ownKnob Try.prog.godebug = none := by kernel_rfl
theorem laidOut : laidOutB Try.prog = true := by kernel_rfl

variable {H : Type} {enc : TypeId × Value → H}

theorem add_eq (b o j : Nat) : (⟨b, o, none⟩ : Addr).add j = ⟨b, o + j, none⟩ := by
  unfold Addr.add
  by_cases h : j = 0
  · subst h; simp
  · simp [h]
/-- an address whose first cell is held is one of a plain row -/
theorem spot_none {w : World} {a : Addr} {v : Value} (h : w.cell? (a.add 0) = some v) : a.spot = none := by
  simpa [Addr.add] using World.cell?_spot h
theorem sl_of {k : IntKind} {w : World} {a : Addr} {len : Nat} {f : Nat → Int} (hc : ∀ j, j < len → w.cell? (a.add j) = some (.int k (f j))) : Sl k w (some a) len f := by
  refine ⟨(fun h => by cases h), fun hp => ?_⟩
  obtain ⟨b, o, spot⟩ := a
  obtain rfl : spot = none := spot_none (hc 0 hp)
  refine ⟨b, o, rfl, ?_, fun j hj => ?_⟩
  · have h := hc 0 hp
    rw [add_eq] at h
    exact block_lt_of_cell h
  · rw [← add_eq]; exact hc j hj

theorem open_row {t e : TypeId} {k : IntKind} {W : World} {base : Nat} {v : Value} {d : DataW H} {ps : List MemPlace} (ht : Try.prog.underlying t = some (.slice e)) (he : Try.prog.underlying e = some (.int k)) (hc : Try.prog.cellsOf e = 1)
    (hval : Value.okWide Try.prog W .any base t v) (h : DataW.Trod enc Try.prog W 0 (fun _ => true) true t v d ps) :
    ∃ a len cap f, v = .slice a len cap ∧ Sl k W a len f ∧ (∀ j, j < len → (Lit.int k (f j)).wf = true) ∧ len ≤ maxLen := by
  obtain ⟨a0, len, cap, rfl⟩ := okWide_slice ht hval
  obtain ⟨fuel, hf⟩ := h
  rcases open_ints ht he hc hf with ⟨hcs, _⟩ | ⟨x, l, c, zs, hcs, _, hl, hm, hz, _, hcell, hwz⟩
  · simp [Value.cells] at hcs
    obtain ⟨rfl, rfl, rfl⟩ := hcs
    exact ⟨none, 0, 0, fun _ => 0, rfl, ⟨fun _ => rfl, fun h => absurd h (by omega)⟩, fun j h => absurd h (by omega), Nat.zero_le _⟩
  · simp [Value.cells] at hcs
    obtain ⟨rfl, rfl, rfl⟩ := hcs
    simp at hz
    refine ⟨some x, len, cap, fun j => zs.getD j 0, rfl, sl_of fun j hj => hcell j (by omega), fun j hj => ?_, by omega⟩
    have hj' : j < zs.length := by omega
    show (Lit.int k (zs.getD j 0)).wf = true
    rw [List.getD_eq_getElem?_getD, List.getElem?_eq_getElem hj']
    exact hwz _ (List.getElem_mem _)

theorem w32 {len : Nat} {f : Nat → Int} (h : ∀ j, j < len → (Lit.int .i32 (f j)).wf = true) : W32 len f := fun j hj => by
  have := bounds_i32 (h j hj); omega

theorem open_rows {W : World} {base : Nat} {v : Value} {d : DataW H} {ps : List MemPlace} (hval : Value.okWide Try.prog W .any base 34 v) (h : DataW.Trod enc Try.prog W 0 (fun _ => true) true 34 v d ps) :
    ∃ a S cap rows f, v = .slice a S cap ∧ Rg W a S rows f ∧ S ≤ maxLen := by
  obtain ⟨a0, len, cap, rfl⟩ := okWide_slice Try.underlying34 hval
  obtain ⟨fuel, hf⟩ := h
  rcases Go.Deep.open_int_rows Try.underlying34 Try.underlying27 Try.underlying21 (by kernel_rfl) (by kernel_rfl) hf with ⟨hcs, _⟩ | ⟨x, l, c, A, L, Cp, Z, hcs, _, hl, hm, _, hx⟩
  · simp [Value.cells] at hcs
    obtain ⟨rfl, rfl, rfl⟩ := hcs
    exact ⟨none, 0, 0, fun _ => (none, 0, 0), fun _ _ => 0, rfl, ⟨fun _ => rfl, fun h => absurd h (by omega)⟩, Nat.zero_le _⟩
  · simp [Value.cells] at hcs
    obtain ⟨rfl, rfl, rfl⟩ := hcs
    refine ⟨some x, len, cap, fun s => (A s, L s, Cp s), fun s i => (Z s).getD i 0, rfl, ⟨(fun h => by cases h), fun hp => ?_⟩, by omega⟩
    obtain ⟨b, o, spot⟩ := x
    obtain rfl : spot = none := spot_none (hx 0 (by omega)).1
    refine ⟨b, o, rfl, ?_, fun s hs => ?_⟩
    · have h := (hx 0 (by omega)).1
      rw [add_eq] at h
      exact block_lt_of_cell h
    · obtain ⟨h1, h2, h3, h4, h5, h6, h7⟩ := hx s (by omega)
      rw [add_eq] at h1
      refine ⟨h1, ?_, w32 fun j hj => ?_, by show L s ≤ _; omega⟩
      · show Sl .i32 W (A s) (L s) _
        cases hA : A s with
        | none => exact ⟨fun _ => by have := h6 hA; omega, fun h => by have := h6 hA; omega⟩
        | some a' => exact sl_of fun j hj => (h7 a' hA).2 j (by omega)
      · have hj' : j < (Z s).length := by have : j < L s := hj; omega
        show (Lit.int .i32 ((Z s).getD j 0)).wf = true
        rw [List.getD_eq_getElem?_getD, List.getElem?_eq_getElem hj']
        exact h5 _ (List.getElem_mem _)

set_option maxRecDepth 100000 in
theorem lifted (os : Os) (started : os.Started) (H : Type) (enc : TypeId × Value → H) :
    ReturnsInHanded {} Try.checked os 6 .any (Rows.fnReachesFollowTheirSourcesSpec.pre6 enc Try.prog Try.f6 Rows.fnReachesFollowTheirSourcesRow.domain false) (Rows.fnReachesFollowTheirSourcesSpec.post enc Try.prog Try.f6 false true false false) := by
  refine returnsInHanded_of_change (C := Try.checked) own started (by kernel_rfl) Try.func6
    (ChangeSpec.witness6 (enc := enc) (C := Try.checked) false ⟨#[], #[.slice none 0 0, .slice none 0 0, .slice none 0 0], []⟩ 8 (by kernel_rfl) (by kernel_rfl) (by kernel_rfl) (by kernel_rfl)) ?_
  intro W base args ds gs before hval0 hW hcnd _
  have hval : ∀ (j : Nat) t v, Try.f6.params[j]? = some t → args[j]? = some v → Value.okWide Try.prog W .any base t v := hval0
  have hW' := hW
  obtain ⟨p, q, hA0, hV, rfl, hfz, hnd⟩ := hW
  have hA : DataW.TrodAll enc Try.prog W 0 (fun _ => true) true Try.f6.params.toList args.toList ds p := hA0
  rw [Try.params6] at hA hval
  obtain ⟨v0, vs0, d0, ds0, p0, q0, hargs, rfl, rfl, h0, r0⟩ := trodAll_cons hA
  obtain ⟨v1, vs1, d1, ds1, p1, q1, rfl, rfl, rfl, h1, r1⟩ := trodAll_cons r0
  obtain ⟨v2, vs2, d2, ds2, p2, q2, rfl, rfl, rfl, h2, r2⟩ := trodAll_cons r1
  obtain ⟨rfl, rfl, rfl⟩ := trodAll_nil r2
  obtain rfl : args = #[v0, v1, v2] := by cases args; simp_all
  obtain ⟨rfl, rfl⟩ := trodVars_none hV
  have k0 := h0
  have k1 := h1
  have k2 := h2
  have lt0 : ∀ x ∈ p0, x.block < W.heap.size := by obtain ⟨m, hm⟩ := k0; exact DataW.trod_lt m _ _ _ hm
  have lt1 : ∀ x ∈ p1, x.block < W.heap.size := by obtain ⟨m, hm⟩ := k1; exact DataW.trod_lt m _ _ _ hm
  have lt2 : ∀ x ∈ p2, x.block < W.heap.size := by obtain ⟨m, hm⟩ := k2; exact DataW.trod_lt m _ _ _ hm
  obtain ⟨an, n, cn, fn, rfl, hsn, _, hn⟩ := open_row Try.underlying33 Try.underlying3 (by kernel_rfl) (hval 0 33 v0 rfl rfl) h0
  obtain ⟨ac, S, cc, rows, f, rfl, hr, hS⟩ := open_rows (hval 1 34 v1 rfl rfl) h1
  obtain ⟨af, m, cf, fi, rfl, hsl, hwf, hm⟩ := open_row Try.underlying27 Try.underlying21 (by kernel_rfl) (hval 2 27 v2 rfl rfl) h2
  clear hA0 hval0
  refine (walk an n cn fn ac S cc rows f af m cf fi W hn hS hm hsn hr hsl (w32 hwf)).mono fun e W' ⟨he, bel⟩ => ?_
  subst he
  exact ⟨_, rfl, _, _, _, [], _, [], hW', trodAll_mk1 (shut_bool Try.underlying4 _), (trodAll_cons_mk (Below.trod laidOut (by kernel_rfl) (of_decide_eq_true (by kernel_rfl)) k0 bel lt0) (trodAll_cons_mk (Below.trod laidOut (by kernel_rfl) (of_decide_eq_true (by kernel_rfl)) k1 bel lt1) (trodAll_cons_mk (Below.trod laidOut (by kernel_rfl) (of_decide_eq_true (by kernel_rfl)) k2 bel lt2) trodAll_mk0))), rfl, bel.frame _, fun h => by cases h⟩

theorem over : Rows.fnReachesFollowTheirSourcesRow.holds Try.pinned (OpenSpec.ofChange Rows.fnReachesFollowTheirSourcesSpec) :=
  OpenClaim.holds_of_wide 6 Try.f6 rfl rfl rfl rfl rfl rfl rfl ⟨rfl, rfl, rfl, rfl, rfl⟩ rfl rfl rfl rfl rfl (by kernel_rfl) Try.func6 (by kernel_rfl)
    (of_decide_eq_true (by kernel_rfl)) (by unfold Func.isWrapper; first | (rw [if_pos (by decide +kernel)]; kernel_rfl) | (rw [if_neg (by decide +kernel)]; exact ⟨rfl, rfl⟩))
    (fun os started H enc _ => lifted os started H enc)

/-- THE STATEMENT -/
theorem proved : Rows.FnReachesFollowTheirSourcesSaid := over

end Go.Proofs.Qxb6603019a.fnReachesFollowTheirSources
