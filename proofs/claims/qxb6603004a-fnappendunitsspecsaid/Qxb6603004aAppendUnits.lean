/- The law FnAppendUnitsSpec: the walk out of the contracts, the row. -/
import Derived.Test.Qxb6603004aRows
import Derived.Test.Qxb6603004aEqual
import Derived.Laws.AppendOwnNone
import Derived.WalkKit
import Derived.ProofKit
import Derived.OpenShut
import Derived.ShutString
import Derived.ChangeOld
import Derived.Below
namespace Go.Proofs.Qxb6603004a.fnAppendUnitsSpec
open Go.ChangeShapes Go.WideShapes Go.ChangeAt Go.RowKit
open Go.ChangeMaps (open_string shut_string)
open Go.Proofs.Qxb6603004a.Plain Go.Proofs.Qxb6603004a.Bytes Go.Proofs.Qxb6603004a.UText
set_option linter.unusedVariables false

theorem own : ownKnob Try.prog.godebug = none := by kernel_rfl
theorem laidOut : laidOutB Try.prog = true := by kernel_rfl

/-! ### STEP 1: THE WALK -/
theorem owned_olds {w : World} {b n : Nat} {ao : Option Addr} {cap : Nat} {xs : List Value} (h : w.ownsRow b 5 1 (.slice ao n cap) n xs) :
    (ao = none → n = 0) ∧ xs.length = n ∧ (∀ x, ao = some x → ∀ j v, xs[j]? = some v → w.cell? (x.add j) = some v) := by
  have hl := h.1
  refine ⟨?_, by omega, ?_⟩
  · intro e
    rcases h.2 with ⟨_, h0⟩ | ⟨g, cap, cur, e2, _⟩
    · exact h0
    · subst e; simp at e2
  · intro x e j v hj
    subst e
    rcases h.2 with ⟨e2, _⟩ | ⟨g, cap', cur, e2, _⟩
    · simp at e2
    · simp only [Value.slice.injEq, Option.some.injEq] at e2
      obtain ⟨rfl, _⟩ := e2
      exact h.cells (g := g) rfl j v hj
theorem app_any {w : World} {ops : Array Oper} {rest : List Oper} {o : Oper} {a : Act} {Q : Exit → Act → World → Prop} (hgd : o.guard = none) (s x : Operand)
    (ho : o.op = .call { callee := .builtin .append, args := #[s, x], argTypes := #[26, 26] }) (base : Nat) (v : Value) (n : Nat) (xs : List Value) (hs : a.eval s = v) (hown : w.ownsRow base 5 1 v n xs)
    (so : Option Addr) (m : Nat) (news : List Value) (hx : a.eval x = .slice so m m) (hso : so = none → m = 0) (hl : news.length = m) (hnews : ∀ ad, so = some ad → ∀ j u, news[j]? = some u → w.cell? (ad.add j) = some u) (h1 : ∀ u ∈ news, u.oneCell' = true)
    (hb : n + m ≤ 1000000) (hbase : base ≤ w.heap.size)
    (h : ∀ v' w', w'.ownsRow base 5 1 v' (n + m) (xs ++ news) → Below base w w' → wpList Try.prog ops Q rest (a.put o.dst v') w') : wpList Try.prog ops Q (o :: rest) a w := by
  cases so with
  | some ad => exact app_own hgd s x ho base v n xs hs hown ad m m news hx hl (hnews ad rfl) h1 hb hbase h
  | none =>
    obtain rfl := hso rfl
    obtain rfl : news = [] := List.eq_nil_of_length_eq_zero hl
    obtain ⟨i0, hi, hi0, hi1, hi2⟩ := info_parts Try.info5
    refine wpList_append_own_none hgd s x 26 ho base 5 i0 1 Try.underlying26 hi v n xs hs hown hx ?_
    exact h v w (by simpa using hown) (Below.refl _ _)
theorem olds_carry {w w' : World} {ao : Option Addr} {xs : List Value} (h : ∀ x, ao = some x → ∀ j v, xs[j]? = some v → w.cell? (x.add j) = some v) (hb : Below w.heap.size w w') : ∀ x, ao = some x → ∀ j v, xs[j]? = some v → w'.cell? (x.add j) = some v :=
  fun x hx => carry (h x hx) hb
theorem owned_below {w w' : World} {b e s n : Nat} {v : Value} {xs : List Value} (h : w.ownsRow b e s v n xs) (hb : Below w.heap.size w w') : w'.ownsRow b e s v n xs := by
  refine ⟨h.1, ?_⟩
  rcases h.2 with h2 | ⟨g, cap, cur, e1, e2, e3, e4⟩
  · exact .inl h2
  · exact .inr ⟨g, cap, cur, e1, e2, by rw [hb.block g (Array.getElem?_eq_some_iff.1 e3).1]; exact e3, e4⟩
theorem all_bytes {z0 : List Int} {n : Nat} {t : List UInt8} (hl : ((z0.take n).map (Value.int .u8)).length = n) (j : Nat) (hj : j < n + t.length) : ∃ z, ((z0.take n).map (Value.int .u8) ++ Units.byteCells t)[j]? = some (.int .u8 z) := by
  by_cases h : j < n
  · exact ⟨(z0.take n)[j]'(by simp at hl; simp; omega), by rw [List.getElem?_append_left (by omega), List.getElem?_eq_getElem (by omega)]; simp⟩
  · refine ⟨(t[j - n]'(by omega)).toNat, ?_⟩
    rw [List.getElem?_append_right (by omega), hl]
    simp [Units.byteCells, List.getElem?_eq_getElem (show j - n < t.length by omega)]

set_option maxRecDepth 100000 in
set_option maxHeartbeats 1600000 in
theorem walk_in (a0 : Option Addr) (n cap0 : Nat) (z0 : List Int) (u p : Nat) (w : World) (w0 : IsRow .u8 w a0 n cap0 z0) (hn : n ≤ 65536) (hu : u ≤ 9223372036854775807) (hp : p ≤ 38) :
    Calls Try.prog 5 #[.slice a0 n cap0, .int .i64 u, .int .u8 p] w fun e w' => e = .returned (.bool true) ∧ Below w.heap.size w w' := by
  have hT0 := text_pos u p
  have hT1 := text_len hu hp
  go_enter Try.func5, Try.ntmps5
  go_wp2_with (first | (go_at_call 12; go_in))
  refine (clone a0 n cap0 z0 _ w0 hn).mono ?_
  rintro e w1 ⟨ao, rfl, hown1, hbel1⟩
  obtain ⟨hao, hxl, hxc⟩ := owned_olds hown1
  have hall := all_bytes (t := text u p) hxl
  have hone : ∀ u ∈ (z0.take n).map (Value.int .u8), u.oneCell' = true := ints_oneCell _ _
  generalize (z0.take n).map (Value.int .u8) = olds at *
  generalize hTT : (text u p).length = T at *
  have HT : Hid ((text u p).length = T) := hTT
  clear w0 hown1 hTT
  go_wp2_with (first
    | (at_make; refine make_own rfl (.tmp 27) rfl _ (n + 48) rfl (by omega) (by omega) ?_; intro w2 hown2 hbel2)
    | (at_builtin; refine app_any rfl (.tmp 29) (.tmp 30) rfl w1.heap.size _ _ _ rfl hown2 ao n olds rfl hao hxl (olds_carry hxc hbel2) hone (by omega) hbel2.size ?_; intro v3 w3 hown3 hbel3)
    | (go_at_call 14; refine (utext u p _ hu hp).mono ?_; rintro e w4 ⟨v4, rfl, hown4, hbel4⟩; rw [HT.out] at hown4; obtain ⟨g4, cap4, rfl, hg4, hg4', hcap4, _, hc4⟩ := owned_shape hown4 hT0)
    | (at_builtin; refine app_own rfl (.tmp 32) (.tmp 35) rfl w1.heap.size _ _ _ rfl (owned_below hown3 hbel4) ⟨g4, 0, none⟩ T cap4 (Units.byteCells (text u p)) rfl (by rw [Units.byteCells_len]; exact HT.out) (at_zero hc4) (Units.byteCells_one _) (by omega) (Nat.le_trans (hbel2.trans hbel3).size hbel4.size) ?_; intro v5 w5 hown5 hbel5))
  rw [Nat.zero_add, List.nil_append] at hown5
  obtain ⟨g5, cap5, rfl, _, hg5, _, _, hc5⟩ := owned_shape hown5 (by omega)
  have hb13 := hbel2.trans hbel3
  have hb15 : Below w1.heap.size w1 w5 := (hb13.trans (hbel4.mono hb13.size)).trans hbel5
  refine (Units.door ao n u p olds _ hn hu hp hao hxl (olds_carry hxc hb15)).mono ?_
  rintro e w6 ⟨v6, rfl, hown6, hbel6⟩
  rw [HT.out] at hown6
  obtain ⟨g6, cap6, rfl, _, _, _, _, hc6⟩ := owned_shape hown6 (by omega)
  have hc5' : ∀ j q, (olds ++ Units.byteCells (text u p))[j]? = some q → w6.cell? ⟨g5, j, none⟩ = some q := fun j q hj => by rw [hbel6.cell (p := ⟨g5, j, none⟩) hg5]; exact hc5 j q hj
  have hB : Below w.heap.size w w6 := hbel1.trans ((hb15.trans (hbel6.mono hb15.size)).mono hbel1.size)
  go_wp2_with (go_at_call 16; refine (Equal.equal g6 g5 (n + T) _ _ _ _ (by omega) hall hc6 hc5').mono ?_; rintro e w7 ⟨rfl, nq, rfl⟩)
  go_ret
  exact ⟨rfl, hB.trans ⟨rfl, rfl, rfl, Nat.le_refl _, fun _ _ => rfl⟩⟩

set_option maxRecDepth 100000 in
set_option maxHeartbeats 1600000 in
theorem walk (a0 : Option Addr) (len0 cap0 : Nat) (z0 : List Int) (a1 : Int) (a2 : Int) (w : World) (w0 : IsRow .u8 w a0 len0 cap0 z0) (w1 : (Lit.int .i64 a1).wf = true) (w2 : (Lit.int .u8 a2).wf = true) :
    Calls Try.prog 5 #[.slice a0 len0 cap0, .int .i64 a1, .int .u8 a2] w fun e w' => e = .returned (.bool true) ∧ Below w.heap.size w w' := by
  have b1 := bounds_i64 w1
  have b2 := bounds_u8 w2
  have b3 : len0 ≤ 9223372036854775807 := by
    rcases w0 with ⟨_, h, _⟩ | ⟨x, _, h, h2, _⟩
    · omega
    · unfold maxLen at h2; omega
  clear w1 w2
  by_cases c1 : 1048576 < len0
  · clear w0
    go_enter Try.func5, Try.ntmps5
    go_wp2
    go_ret
    exact ⟨rfl, Below.refl _ _⟩
  by_cases c2 : 65536 < len0
  · clear w0
    go_enter Try.func5, Try.ntmps5
    go_wp2
    go_ret
    exact ⟨rfl, Below.refl _ _⟩
  by_cases c3 : a1 < 0
  · clear w0
    go_enter Try.func5, Try.ntmps5
    go_wp2
    go_ret
    exact ⟨rfl, Below.refl _ _⟩
  by_cases c4 : 38 < a2
  · clear w0
    go_enter Try.func5, Try.ntmps5
    go_wp2
    go_ret
    exact ⟨rfl, Below.refl _ _⟩
  obtain ⟨u, rfl⟩ : ∃ f : Nat, a1 = f := ⟨a1.toNat, by omega⟩
  obtain ⟨p, rfl⟩ : ∃ t : Nat, a2 = t := ⟨a2.toNat, by omega⟩
  exact walk_in a0 len0 cap0 z0 u p w w0 (by omega) (by omega) (by omega)

/-! ### THE ROW's STEP: WRITTEN OUT: LEAVE IT -/
set_option maxRecDepth 100000 in
theorem lifted (os : Os) (started : os.Started) (H : Type) (enc : TypeId × Value → H) :
    ReturnsInHanded {} Try.checked os 5 .any (Rows.fnAppendUnitsSpecSpec.pre6 enc Try.prog Try.f5 Rows.fnAppendUnitsSpecRow.domain false) (Rows.fnAppendUnitsSpecSpec.post enc Try.prog Try.f5 false true false false) := by
  refine returnsInHanded_of_change (C := Try.checked) own started (by kernel_rfl) Try.func5
    (ChangeSpec.witness6 (enc := enc) (C := Try.checked) false ⟨#[], #[.slice none 0 0, .int .i64 0, .int .u8 0], []⟩ 8 (by kernel_rfl) (by kernel_rfl) (by kernel_rfl) (by kernel_rfl)) ?_
  intro W base args ds gs before hval0 hW hcnd _
  have hval : ∀ (j : Nat) t v, Try.f5.params[j]? = some t → args[j]? = some v → Value.okWide Try.prog W .any base t v := hval0
  have hW' := hW
  obtain ⟨p, q, hA0, hV, rfl, hfz, hnd⟩ := hW
  have hA : DataW.TrodAll enc Try.prog W 0 (fun _ => true) true Try.f5.params.toList args.toList ds p := hA0
  rw [Try.params5] at hA hval
  obtain ⟨v0, vs0, d0, ds0, p0, q0, hargs, rfl, rfl, h0, r0⟩ := trodAll_cons hA
  obtain ⟨v1, vs1, d1, ds1, p1, q1, rfl, rfl, rfl, h1, r1⟩ := trodAll_cons r0
  obtain ⟨v2, vs2, d2, ds2, p2, q2, rfl, rfl, rfl, h2, r2⟩ := trodAll_cons r1
  obtain ⟨rfl, rfl, rfl⟩ := trodAll_nil r2
  obtain rfl : args = #[v0, v1, v2] := by cases args; simp_all
  obtain ⟨rfl, rfl⟩ := trodVars_none hV
  obtain ⟨a0, len0, cap0, rfl⟩ := okWide_slice Try.underlying26 (hval 0 26 v0 rfl rfl)
  have k0 := h0
  have lt0 : ∀ x ∈ p0, x.block < W.heap.size := by obtain ⟨m, hm⟩ := k0; exact DataW.trod_lt m _ _ _ hm
  obtain ⟨z0, w0⟩ : ∃ zs, IsRow .u8 W a0 len0 cap0 zs := by
    obtain ⟨fuel, hf⟩ := h0
    rcases open_ints Try.underlying26 Try.underlying5 (by kernel_rfl) hf with ⟨hcs, _⟩ | ⟨x, l, c, zs, hcs, _, hl, hm, hz, _, hcell, hwz⟩
    · simp [Value.cells] at hcs
      obtain ⟨rfl, rfl, rfl⟩ := hcs
      exact ⟨[], .inl ⟨rfl, rfl, rfl, rfl⟩⟩
    · simp [Value.cells] at hcs
      obtain ⟨rfl, rfl, rfl⟩ := hcs
      exact ⟨zs, .inr ⟨_, rfl, hl, hm, by simpa using hz, hcell, hwz⟩⟩
  obtain ⟨a1, rfl, rfl, rfl, w1⟩ := open_int Try.underlying2 (hval 1 2 v1 rfl rfl) h1
  obtain ⟨a2, rfl, rfl, rfl, w2⟩ := open_int Try.underlying5 (hval 2 5 v2 rfl rfl) h2
  clear hA0 hval0
  refine (walk a0 len0 cap0 z0 a1 a2 W w0 w1 w2).mono fun e W' ⟨he, bel⟩ => ?_
  subst he
  exact ⟨_, rfl, _, _, _, [], _, [], hW', trodAll_mk1 (shut_bool Try.underlying4 _), (trodAll_cons_mk (Below.trod laidOut (by kernel_rfl) (of_decide_eq_true (by kernel_rfl)) k0 bel lt0) (trodAll_cons_mk (shut_int Try.underlying2 w1) (trodAll_cons_mk (shut_int Try.underlying5 w2) trodAll_mk0))), rfl, bel.frame _, fun h => by cases h⟩

theorem over : Rows.fnAppendUnitsSpecRow.holds Try.pinned (OpenSpec.ofChange Rows.fnAppendUnitsSpecSpec) :=
  OpenClaim.holds_of_wide 5 Try.f5 rfl rfl rfl rfl rfl rfl rfl ⟨rfl, rfl, rfl, rfl, rfl⟩ rfl rfl rfl rfl rfl (by kernel_rfl) Try.func5 (by kernel_rfl)
    (of_decide_eq_true (by kernel_rfl)) (by unfold Func.isWrapper; first | (rw [if_pos (by decide +kernel)]; kernel_rfl) | (rw [if_neg (by decide +kernel)]; exact ⟨rfl, rfl⟩))
    (fun os started H enc _ => lifted os started H enc)

/-- ████ THE STATEMENT ████ -/
theorem proved : Rows.FnAppendUnitsSpecSaid := over
end Go.Proofs.Qxb6603004a.fnAppendUnitsSpec
