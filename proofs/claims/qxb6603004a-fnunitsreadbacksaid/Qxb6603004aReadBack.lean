/- The law FnUnitsReadBack: the walk out of the contracts, the row. -/
import Derived.Test.Qxb6603004aRows
import Derived.Test.Qxb6603004aBack
import Derived.Test.Qxb6603004aUnits
import Derived.Deep.QuietTactic
import Derived.BigQuiet
import Derived.WalkKit
import Derived.ProofKit
import Derived.OpenShut
import Derived.ShutString
import Derived.ChangeOld
import Derived.Below
namespace Go.Proofs.Qxb6603004a.fnUnitsReadBack
open Go.ChangeShapes Go.WideShapes Go.ChangeAt Go.RowKit
open Go.ChangeMaps (open_string shut_string)
open Go.Proofs.Qxb6603004a.Plain Go.Proofs.Qxb6603004a.Bytes
set_option linter.unusedVariables false

theorem own : ownKnob Try.prog.godebug = none := by kernel_rfl
theorem laidOut : laidOutB Try.prog = true := by kernel_rfl

/-! ### STEP 1: THE WALK -/
/-- an owned row's value, and its cells -/
theorem owned_shape {w : World} {b n : Nat} {v : Value} {xs : List Value} (h : w.ownsRow b 5 1 v n xs) (hn : 0 < n) :
    ∃ g cap, v = .slice (some ⟨g, 0, none⟩) n cap ∧ b ≤ g ∧ n ≤ cap ∧ ∀ j u, xs[j]? = some u → w.cell? ⟨g, j, none⟩ = some u := by
  have hc := fun g (hg : v.ownBlock = some g) => h.cells hg
  rcases h.2 with ⟨_, h0⟩ | ⟨g, cap, cur, rfl, hb, _, hcap, _⟩
  · omega
  · refine ⟨g, cap, rfl, hb, hcap, fun j u hj => ?_⟩
    have := hc g rfl j u hj
    rwa [Units.addr_add, Nat.zero_add] at this
theorem owned_olds {w : World} {b n : Nat} {ao : Option Addr} {cap : Nat} {xs : List Value} (h : w.ownsRow b 5 1 (.slice ao n cap) n xs) :
    (ao = none → n = 0) ∧ xs.length = n ∧ (∀ x, ao = some x → ∀ j v, xs[j]? = some v → w.cell? (x.add j) = some v) := by
  have hl := h.1
  refine ⟨?_, by omega, ?_⟩
  · intro e
    rcases h.2 with ⟨_, h0⟩ | ⟨g, cap, cur, e2, _⟩
    · exact h0
    · subst e; simp at e2
  · intro x e j v hj
    subst e
    rcases h.2 with ⟨e2, _⟩ | ⟨g, cap', cur, e2, _⟩
    · simp at e2
    · simp only [Value.slice.injEq, Option.some.injEq] at e2
      obtain ⟨rfl, _⟩ := e2
      exact h.cells (g := g) rfl j v hj

theorem olds_at {z0 : List Int} {n k : Nat} (hl : ((z0.take n).map (Value.int .u8)).length = n) (hk : k < n) (ys : List Value) : ∃ z, ((z0.take n).map (Value.int .u8))[k]? = some (.int .u8 z) ∧ ((z0.take n).map (Value.int .u8) ++ ys)[k]? = some (.int .u8 z) := by
  refine ⟨(z0.take n)[k]'(by simp at hl; simp; omega), ?_, ?_⟩
  · rw [List.getElem?_eq_getElem (by omega)]; simp
  · rw [List.getElem?_append_left (by omega), List.getElem?_eq_getElem (by omega)]; simp

set_option maxRecDepth 100000 in
set_option maxHeartbeats 4000000 in
theorem walk_in (a0 : Option Addr) (n cap0 : Nat) (z0 : List Int) (u p : Nat) (w : World) (w0 : IsRow .u8 w a0 n cap0 z0) (hn : n ≤ 65536) (hu : u ≤ 9223372036854775807) (hp : p ≤ 38) :
    Calls Try.prog 6 #[.slice a0 n cap0, .int .i64 u, .int .u8 p] w fun e w' => e = .returned (.bool true) ∧ Below w.heap.size w w' := by
  go_enter Try.func6, Try.ntmps6
  go_wp2_with (first | (go_at_call 17; go_in))
  refine (clone a0 n cap0 z0 _ w0 hn).mono ?_
  rintro e w1 ⟨ao, rfl, hown1, hbel1⟩
  obtain ⟨hao, hxl, hxc⟩ := owned_olds hown1
  go_wp2_with fail
  refine (Units.door ao n u p _ _ hn hu hp hao hxl hxc).mono ?_
  rintro e w2 ⟨v, rfl, hown2, hbel2⟩
  have hT := text_pos u p
  obtain ⟨g, cap, rfl, hg, hcap, hc2⟩ := owned_shape hown2 (by omega)
  go_wp2_with fail
  go_loopw [9] (fun i wr => ∃ k nq : Nat, k ≤ n ∧ i = .int .i64 k ∧ wr = w2.drewN nq) (fun i _ => n - (intOf i).toNat)
  case atStart => exact ⟨0, 0, Nat.zero_le _, rfl, rfl⟩
  case round =>
    obtain ⟨k, nq, hk, rfl, rfl⟩ := hrel
    by_cases hlt : k < n
    · obtain ⟨g1, cap1, e1, hg1, _, hc1⟩ := owned_shape hown1 (by omega)
      simp only [Value.slice.injEq] at e1
      obtain ⟨rfl, _, rfl⟩ := e1
      obtain ⟨z, hz1, hz2⟩ := olds_at hxl hlt (Units.byteCells (text u p))
      have hcd : w2.cell? ⟨g1, k, none⟩ = some (.int .u8 z) := by
        have e := hc1 k _ hz1
        rw [hbel2.cell (p := ⟨g1, k, none⟩) (block_lt_of_cell e)]; exact e
      have hco := hc2 k _ hz2
      clear hz1 hz2 hc1 hc2
      go_wp2_with fail
      go_quiet (fail)
      go_wp2
      go_roundw
      case rel => exact ⟨k + 1, _, by omega, by go_num, rfl⟩
      case measure => simp [intOf]; omega
    · obtain rfl : k = n := by omega
      have hcn : k < cap := by omega
      have hback : ∀ nq, (convert 26 9 (.slice (some ⟨g, k, none⟩) (text u p).length (cap - k))).run Try.prog (w2.drewN nq) = .ok (.string ⟨(text u p).toArray⟩) (w2.drewN nq) := by
        intro nq
        refine run_convert_bytes_back (P := Try.prog) (w2.drewN nq) 26 9 5 ⟨g, k, none⟩ (cap - k) (text u p) Try.underlying26 Try.underlying5 Try.underlying9 ?_
        intro j hj
        rw [World.cell?_drewN, Units.addr_add]
        refine hc2 (k + j) _ ?_
        rw [List.getElem?_append_right (by omega), hxl]
        simp [Units.byteCells, List.getElem?_eq_getElem hj]
      obtain ⟨t, ht⟩ : ∃ t : ByteArray, t = ⟨(text u p).toArray⟩ := ⟨_, rfl⟩
      have htl : t.data.toList = text u p := by rw [ht]
      have hts : t.size = (text u p).length := by rw [ht]; rfl
      rw [← ht] at hback
      have hB : ∀ nq, Below w.heap.size w (w2.drewN nq) := fun nq => (hbel1.trans (hbel2.mono hbel1.size)).trans ⟨rfl, rfl, rfl, Nat.le_refl _, fun _ _ => rfl⟩
      clear ht hc2 hxc hown1 hown2 hbel1 hbel2 hxl hao hg w0 hlt
      go_wp2_with fail
      clear hback
      replace hB := hB nq
      have hp255 : p ≤ 255 := by omega
      have hk1 : k ≤ 9223372036854775807 := by omega
      generalize w2.drewN nq = W at hB ⊢
      go_loop [11, 12] (fun q i => ∃ k q' : Nat, k ≤ p ∧ i = .int .i64 k ∧ q = .int .i64 q' ∧ Hid (q' = u / 10 ^ k)) (fun _ i => p - (intOf i).toNat)
      case atStart => exact ⟨0, u, Nat.zero_le _, rfl, rfl, by show _ = _; simp⟩
      case round =>
        obtain ⟨j, q, hj, rfl, rfl, HQ⟩ := hrel
        have hq : q ≤ 9223372036854775807 := by rw [HQ.out]; exact Nat.le_trans (Nat.div_le_self _ _) hu
        by_cases hlt : j < p
        · go_wp2_with fail
          go_round
          case rel => exact ⟨j + 1, q / 10, by omega, by go_num, by go_num, by show _ = _; rw [HQ.out, Nat.div_div_eq_div_mul, Nat.pow_succ]⟩
          case measure => simp [intOf]; omega
        · obtain rfl : j = p := by omega
          generalize (text u j).length = L at *
          by_cases hq0 : 0 < q
          · go_wp2_with fail
            go_loop [14, 15] (fun pw i => ∃ k P : Nat, k ≤ j ∧ i = .int .i64 k ∧ pw = .int .i64 P ∧ Hid (P = 10 ^ k)) (fun _ i => j - (intOf i).toNat)
            case atStart => exact ⟨0, 1, Nat.zero_le _, rfl, rfl, rfl⟩
            case round =>
              obtain ⟨i, P, hi, rfl, rfl, HP⟩ := hrel
              by_cases hlt2 : i < j
              · have hP : P * 10 ≤ 9223372036854775807 := Back.pow_small hu HQ.out hq0 hlt2 HP.out
                go_wp2_with fail
                go_round
                case rel => exact ⟨i + 1, P * 10, by omega, by go_num, by go_num, by show _ = _; rw [HP.out, Nat.pow_succ]⟩
                case measure => simp [intOf]; omega
              · obtain rfl : i = j := by omega
                obtain ⟨hm1, hm2, HM⟩ := Back.frac_eq HQ.out HP.out
                by_cases hj0 : i = 0
                · have hi0 : ((i : Int) == 0) = true := by simp; omega
                  rw [hj0] at htl
                  obtain ⟨m, hm1', hm2', hsz, HW, hlead⟩ := Back.facts0 hu htl
                  obtain rfl : L = m := by omega
                  have hsz2 : t.size ≤ 100 := by omega
                  clear htl hj0 hcap
                  rcases hlead with hl | ⟨hl, hl2⟩
                  · have hl1 : ((L : Int) == 1) = true := by simp; omega
                    clear hl
                    go_wp2_with fail
                    refine (Back.door_val t _ _ 0 L _ u W hsz2 rfl (by omega) (by omega) (by omega) HW (Back.dv_whole hu) (allD_whole _ _)).mono ?_
                    rintro e w3 ⟨rfl, hb3⟩
                    go_wp2
                    go_ret
                    exact ⟨rfl, hB.trans (hb3.mono hB.size)⟩
                  · have hl1 : ((L : Int) == 1) = false := by simp; omega
                    have hl3 := hl2 (by omega)
                    go_wp2_with fail
                    refine (Back.door_val t _ _ 0 L _ u W hsz2 rfl (by omega) (by omega) (by omega) HW (Back.dv_whole hu) (allD_whole _ _)).mono ?_
                    rintro e w3 ⟨rfl, hb3⟩
                    go_wp2
                    go_ret
                    exact ⟨rfl, hB.trans (hb3.mono hB.size)⟩
                · have hi0 : ((i : Int) == 0) = false := by simp; omega
                  obtain ⟨m, hm1', hm2', hsz, h46, HW, HD, hlead⟩ := Back.facts1 hu HQ.out (by omega) htl
                  obtain rfl : L = m + 1 + i := by omega
                  have h46' := h46 (by omega)
                  have hsz2 : t.size ≤ 100 := by omega
                  clear h46 htl hcap
                  rcases hlead with hl | ⟨hl, hl2⟩
                  · have hl1 : ((m : Int) == 1) = true := by simp; omega
                    clear hl
                    go_wp2_with fail
                    refine (Back.door_val t _ _ 0 m _ q W hsz2 rfl (by omega) (by omega) (by omega) HW (Back.dv_whole hq) (allD_whole _ _)).mono ?_
                    rintro e w3 ⟨rfl, hb3⟩
                    go_wp2_with fail
                    refine (Back.door_val t _ _ (m + 1) (m + 1 + i) _ ((u : Int) - (q : Int) * (P : Int)) w3 hsz2 (by omega) (by omega) (by omega) (by omega) HD (by rw [Back.dv_decs hu, ← HM.out]) (allD_decs _ _)).mono ?_
                    rintro e w4 ⟨rfl, hb4⟩
                    go_wp2
                    go_ret
                    exact ⟨rfl, (hB.trans (hb3.mono hB.size)).trans (hb4.mono (Nat.le_trans hB.size hb3.size))⟩
                  · have hl1 : ((m : Int) == 1) = false := by simp; omega
                    have hl3 := hl2 (by omega)
                    go_wp2_with fail
                    refine (Back.door_val t _ _ 0 m _ q W hsz2 rfl (by omega) (by omega) (by omega) HW (Back.dv_whole hq) (allD_whole _ _)).mono ?_
                    rintro e w3 ⟨rfl, hb3⟩
                    go_wp2_with fail
                    refine (Back.door_val t _ _ (m + 1) (m + 1 + i) _ ((u : Int) - (q : Int) * (P : Int)) w3 hsz2 (by omega) (by omega) (by omega) (by omega) HD (by rw [Back.dv_decs hu, ← HM.out]) (allD_decs _ _)).mono ?_
                    rintro e w4 ⟨rfl, hb4⟩
                    go_wp2
                    go_ret
                    exact ⟨rfl, (hB.trans (hb3.mono hB.size)).trans (hb4.mono (Nat.le_trans hB.size hb3.size))⟩
          · have hq1 : ¬ (0 : Int) < q := by omega
            have HM : Hid (u % 10 ^ j = u) := Back.frac_low HQ.out hq0
            by_cases hj0 : j = 0
            · have hi0 : ((j : Int) == 0) = true := by simp; omega
              rw [hj0] at htl
              obtain ⟨m, hm1', hm2', hsz, HW, hlead⟩ := Back.facts0 hu htl
              obtain rfl : L = m := by omega
              have hsz2 : t.size ≤ 100 := by omega
              clear htl hj0 hcap
              rcases hlead with hl | ⟨hl, hl2⟩
              · have hl1 : ((L : Int) == 1) = true := by simp; omega
                clear hl
                go_wp2_with fail
                refine (Back.door_val t _ _ 0 L _ u W hsz2 rfl (by omega) (by omega) (by omega) HW (Back.dv_whole hu) (allD_whole _ _)).mono ?_
                rintro e w3 ⟨rfl, hb3⟩
                go_wp2
                go_ret
                exact ⟨rfl, hB.trans (hb3.mono hB.size)⟩
              · have hl1 : ((L : Int) == 1) = false := by simp; omega
                have hl3 := hl2 (by omega)
                go_wp2_with fail
                refine (Back.door_val t _ _ 0 L _ u W hsz2 rfl (by omega) (by omega) (by omega) HW (Back.dv_whole hu) (allD_whole _ _)).mono ?_
                rintro e w3 ⟨rfl, hb3⟩
                go_wp2
                go_ret
                exact ⟨rfl, hB.trans (hb3.mono hB.size)⟩
            · have hi0 : ((j : Int) == 0) = false := by simp; omega
              obtain ⟨m, hm1', hm2', hsz, h46, HW, HD, hlead⟩ := Back.facts1 hu HQ.out (by omega) htl
              obtain rfl : L = m + 1 + j := by omega
              have h46' := h46 (by omega)
              have hsz2 : t.size ≤ 100 := by omega
              clear h46 htl hcap
              rcases hlead with hl | ⟨hl, hl2⟩
              · have hl1 : ((m : Int) == 1) = true := by simp; omega
                clear hl
                go_wp2_with fail
                refine (Back.door_val t _ _ 0 m _ q W hsz2 rfl (by omega) (by omega) (by omega) HW (Back.dv_whole hq) (allD_whole _ _)).mono ?_
                rintro e w3 ⟨rfl, hb3⟩
                go_wp2_with fail
                refine (Back.door_val t _ _ (m + 1) (m + 1 + j) _ (u : Int) w3 hsz2 (by omega) (by omega) (by omega) (by omega) HD (by rw [Back.dv_decs hu, HM.out]) (allD_decs _ _)).mono ?_
                rintro e w4 ⟨rfl, hb4⟩
                go_wp2
                go_ret
                exact ⟨rfl, (hB.trans (hb3.mono hB.size)).trans (hb4.mono (Nat.le_trans hB.size hb3.size))⟩
              · have hl1 : ((m : Int) == 1) = false := by simp; omega
                have hl3 := hl2 (by omega)
                go_wp2_with fail
                refine (Back.door_val t _ _ 0 m _ q W hsz2 rfl (by omega) (by omega) (by omega) HW (Back.dv_whole hq) (allD_whole _ _)).mono ?_
                rintro e w3 ⟨rfl, hb3⟩
                go_wp2_with fail
                refine (Back.door_val t _ _ (m + 1) (m + 1 + j) _ (u : Int) w3 hsz2 (by omega) (by omega) (by omega) (by omega) HD (by rw [Back.dv_decs hu, HM.out]) (allD_decs _ _)).mono ?_
                rintro e w4 ⟨rfl, hb4⟩
                go_wp2
                go_ret
                exact ⟨rfl, (hB.trans (hb3.mono hB.size)).trans (hb4.mono (Nat.le_trans hB.size hb3.size))⟩

set_option maxRecDepth 100000 in
set_option maxHeartbeats 1600000 in
theorem walk (a0 : Option Addr) (len0 cap0 : Nat) (z0 : List Int) (a1 : Int) (a2 : Int) (w : World) (w0 : IsRow .u8 w a0 len0 cap0 z0) (w1 : (Lit.int .i64 a1).wf = true) (w2 : (Lit.int .u8 a2).wf = true) :
    Calls Try.prog 6 #[.slice a0 len0 cap0, .int .i64 a1, .int .u8 a2] w fun e w' => e = .returned (.bool true) ∧ Below w.heap.size w w' := by
  have b1 := bounds_i64 w1
  have b2 := bounds_u8 w2
  have b3 : len0 ≤ 9223372036854775807 := by
    rcases w0 with ⟨_, h, _⟩ | ⟨x, _, h, h2, _⟩
    · omega
    · unfold maxLen at h2; omega
  clear w1 w2
  by_cases c1 : 1048576 < len0
  · clear w0
    go_enter Try.func6, Try.ntmps6
    go_wp2
    go_ret
    exact ⟨rfl, Below.refl _ _⟩
  by_cases c2 : 65536 < len0
  · clear w0
    go_enter Try.func6, Try.ntmps6
    go_wp2
    go_ret
    exact ⟨rfl, Below.refl _ _⟩
  by_cases c3 : a1 < 0
  · clear w0
    go_enter Try.func6, Try.ntmps6
    go_wp2
    go_ret
    exact ⟨rfl, Below.refl _ _⟩
  by_cases c4 : 38 < a2
  · clear w0
    go_enter Try.func6, Try.ntmps6
    go_wp2
    go_ret
    exact ⟨rfl, Below.refl _ _⟩
  obtain ⟨u, rfl⟩ : ∃ f : Nat, a1 = f := ⟨a1.toNat, by omega⟩
  obtain ⟨p, rfl⟩ : ∃ t : Nat, a2 = t := ⟨a2.toNat, by omega⟩
  exact walk_in a0 len0 cap0 z0 u p w w0 (by omega) (by omega) (by omega)

/-! ### THE ROW's STEP: WRITTEN OUT: LEAVE IT -/
set_option maxRecDepth 100000 in
theorem lifted (os : Os) (started : os.Started) (H : Type) (enc : TypeId × Value → H) :
    ReturnsInHanded {} Try.checked os 6 .any (Rows.fnUnitsReadBackSpec.pre6 enc Try.prog Try.f6 Rows.fnUnitsReadBackRow.domain false) (Rows.fnUnitsReadBackSpec.post enc Try.prog Try.f6 false true false false) := by
  refine returnsInHanded_of_change (C := Try.checked) own started (by kernel_rfl) Try.func6
    (ChangeSpec.witness6 (enc := enc) (C := Try.checked) false ⟨#[], #[.slice none 0 0, .int .i64 0, .int .u8 0], []⟩ 8 (by kernel_rfl) (by kernel_rfl) (by kernel_rfl) (by kernel_rfl)) ?_
  intro W base args ds gs before hval0 hW hcnd _
  have hval : ∀ (j : Nat) t v, Try.f6.params[j]? = some t → args[j]? = some v → Value.okWide Try.prog W .any base t v := hval0
  have hW' := hW
  obtain ⟨p, q, hA0, hV, rfl, hfz, hnd⟩ := hW
  have hA : DataW.TrodAll enc Try.prog W 0 (fun _ => true) true Try.f6.params.toList args.toList ds p := hA0
  rw [Try.params6] at hA hval
  obtain ⟨v0, vs0, d0, ds0, p0, q0, hargs, rfl, rfl, h0, r0⟩ := trodAll_cons hA
  obtain ⟨v1, vs1, d1, ds1, p1, q1, rfl, rfl, rfl, h1, r1⟩ := trodAll_cons r0
  obtain ⟨v2, vs2, d2, ds2, p2, q2, rfl, rfl, rfl, h2, r2⟩ := trodAll_cons r1
  obtain ⟨rfl, rfl, rfl⟩ := trodAll_nil r2
  obtain rfl : args = #[v0, v1, v2] := by cases args; simp_all
  obtain ⟨rfl, rfl⟩ := trodVars_none hV
  obtain ⟨a0, len0, cap0, rfl⟩ := okWide_slice Try.underlying26 (hval 0 26 v0 rfl rfl)
  have k0 := h0
  have lt0 : ∀ x ∈ p0, x.block < W.heap.size := by obtain ⟨m, hm⟩ := k0; exact DataW.trod_lt m _ _ _ hm
  obtain ⟨z0, w0⟩ : ∃ zs, IsRow .u8 W a0 len0 cap0 zs := by
    obtain ⟨fuel, hf⟩ := h0
    rcases open_ints Try.underlying26 Try.underlying5 (by kernel_rfl) hf with ⟨hcs, _⟩ | ⟨x, l, c, zs, hcs, _, hl, hm, hz, _, hcell, hwz⟩
    · simp [Value.cells] at hcs
      obtain ⟨rfl, rfl, rfl⟩ := hcs
      exact ⟨[], .inl ⟨rfl, rfl, rfl, rfl⟩⟩
    · simp [Value.cells] at hcs
      obtain ⟨rfl, rfl, rfl⟩ := hcs
      exact ⟨zs, .inr ⟨_, rfl, hl, hm, by simpa using hz, hcell, hwz⟩⟩
  obtain ⟨a1, rfl, rfl, rfl, w1⟩ := open_int Try.underlying2 (hval 1 2 v1 rfl rfl) h1
  obtain ⟨a2, rfl, rfl, rfl, w2⟩ := open_int Try.underlying5 (hval 2 5 v2 rfl rfl) h2
  clear hA0 hval0
  refine (walk a0 len0 cap0 z0 a1 a2 W w0 w1 w2).mono fun e W' ⟨he, bel⟩ => ?_
  subst he
  exact ⟨_, rfl, _, _, _, [], _, [], hW', trodAll_mk1 (shut_bool Try.underlying4 _), (trodAll_cons_mk (Below.trod laidOut (by kernel_rfl) (of_decide_eq_true (by kernel_rfl)) k0 bel lt0) (trodAll_cons_mk (shut_int Try.underlying2 w1) (trodAll_cons_mk (shut_int Try.underlying5 w2) trodAll_mk0))), rfl, bel.frame _, fun h => by cases h⟩

theorem over : Rows.fnUnitsReadBackRow.holds Try.pinned (OpenSpec.ofChange Rows.fnUnitsReadBackSpec) :=
  OpenClaim.holds_of_wide 6 Try.f6 rfl rfl rfl rfl rfl rfl rfl ⟨rfl, rfl, rfl, rfl, rfl⟩ rfl rfl rfl rfl rfl (by kernel_rfl) Try.func6 (by kernel_rfl)
    (of_decide_eq_true (by kernel_rfl)) (by unfold Func.isWrapper; first | (rw [if_pos (by decide +kernel)]; kernel_rfl) | (rw [if_neg (by decide +kernel)]; exact ⟨rfl, rfl⟩))
    (fun os started H enc _ => lifted os started H enc)

/-- ████ THE STATEMENT ████ -/
theorem proved : Rows.FnUnitsReadBackSaid := over
end Go.Proofs.Qxb6603004a.fnUnitsReadBack
