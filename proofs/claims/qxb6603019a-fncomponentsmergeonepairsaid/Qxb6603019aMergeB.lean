/- FnComponentsMergeOnePair: the walk behind the tests. -/
import Derived.Test.Qxb6603019aMergeA
namespace Go.Proofs.Qxb6603019a.MergeB
open Go.RowKit Go.Maps Go.Proofs.Qxb6603019a.Lab Go.Proofs.Qxb6603019a.Root Go.Proofs.Qxb6603019a.Base Go.Proofs.Qxb6603019a.Comp Go.Proofs.Qxb6603019a.Keys Go.Proofs.Qxb6603019a.Clone Go.Proofs.Qxb6603019a.MergeA

set_option maxRecDepth 100000 in
set_option maxHeartbeats 3200000 in
theorem walk_in (n : Nat) (mo : Option Nat) (sz : Nat) (ao : Option Addr) (len cap : Nat) (ks : List (Int × Int)) (a b : Nat) (w : World) (hn : n ≤ 65536) (hl : len ≤ 65536) (hs : sz ≤ 65536) (hls : 8 * len + 16 * sz ≤ 1048576) (ha : a < n) (hb : b < n)
    (hm : MapOk w mo sz) (hk : KeysIs w ao len ks) :
    Calls Try.prog 4 #[.int .i64 n, .map mo, .slice ao len cap, .int .i32 a, .int .i32 b] w fun e w' => e = .returned (.bool true) ∧ Below w.heap.size w w' := by
  have hlen := (hm.2 w (Below.refl _ _)).1
  go_enter Try.func4, Try.ntmps4
  go_wp2_with fail
  refine (enum n mo sz ao len cap ks _ hn hl hs hm hk).mono ?_
  rintro e w1 ⟨r, rfl, hr, hbel1⟩
  cases r
  · go_wp2
    go_ret
    exact ⟨rfl, hbel1⟩
  · obtain ⟨rfl, hok⟩ := hr rfl
    have hk1 := keys_below hk hbel1
    have hm1 := mapOk_below hm hbel1
    clear hr hlen hm hk
    go_wp2_with fail
    refine (cloneKeys ao len cap ks _ hl hk1).mono ?_
    rintro e w2 ⟨a2, c2, rfl, hk2, hbel2⟩
    have hm2 := mapOk_below hm1 hbel2
    clear hk1 hm1
    go_wp2_with fail
    refine (copyAny n mo a2 len c2 ks _ hl hm2 hk2 hok).mono ?_
    rintro e w3 ⟨mo3, sz3, rfl, hmi3, hmo3, hbel3⟩
    have hk3 := keys_below hk2 hbel3
    clear hk2 hm2
    go_wp2_with fail
    refine (door n mo3 (MergeA.Edge ks) _ hn hmi3).mono ?_
    rintro e w4 ⟨g1, f1, rfl, hg1, hpar1, hlab1, hbel4⟩
    have hk4 := keys_below hk3 hbel4
    have hm4 := mapOk_below hmo3 hbel4
    have hb4 : Below w.heap.size w w4 := ((hbel1.trans (hbel2.mono hbel1.size)).trans (hbel3.mono (Nat.le_trans hbel1.size hbel2.size))).trans (hbel4.mono (Nat.le_trans (Nat.le_trans hbel1.size hbel2.size) hbel3.size))
    clear hk3 hmi3 hmo3 hbel1 hbel2 hbel3 hbel4
    have hmk := makeMap_hint ((len : Int) + 1)
    go_wp2_with fail
    have hown0 := World.ownsMap_made (H := Unit) w4 Try.prog 31 (plainElem Try.prog 3)
    have hbel0 : Below w4.heap.size w4 (w4.alloc (.map #[] 0)) := (Below.refl _ _).alloc (Nat.le_refl _) _
    generalize w4.alloc (.map #[] 0) = W at *
    clear hmk
    go_loopw [13] (fun i wr => ∃ k : Nat, ∃ D : DataW Unit, k ≤ len ∧ i = .int .i64 (k : Nat) ∧ wr.ownsMap Try.prog 31 (plainElem Try.prog 3) w4.heap.size k D ∧ Hid (HasIs D ks k) ∧ Below w4.heap.size w4 wr) (fun i _ => len - (intOf i).toNat)
    case atStart => exact ⟨0, _, Nat.zero_le _, rfl, hown0, HasIs.start ks, hbel0⟩
    case round =>
      clear hown0 hbel0
      obtain ⟨k, D, hk', rfl, hown, HH, hbel⟩ := hrel
      by_cases hlt : k < len
      · obtain ⟨hkl, hwf, _, hpos⟩ := hk4
        obtain ⟨bq, o, rfl, hbq, hcells⟩ := hpos (by omega)
        obtain ⟨hc0, hc1⟩ := hcells k (by omega)
        obtain ⟨hw0, hw1⟩ := hwf ks[k] (List.getElem_mem _)
        have hd0 : wr.cell? ⟨bq, o + k * 2, none⟩ = some (.int .i32 ks[k].1) := by rw [hbel.cell (p := ⟨bq, o + k * 2, none⟩) hbq]; exact hc0
        have hd1 : wr.cell? ⟨bq, o + k * 2 + 1, none⟩ = some (.int .i32 ks[k].2) := by rw [hbel.cell (p := ⟨bq, o + k * 2 + 1, none⟩) hbq]; exact hc1
        obtain ⟨c, r, hwc, _, hlook⟩ := (hm4.2 wr.drew hbel.drew).2 _ _ hw0 hw1
        obtain ⟨w5, hupd, hown5, hgr5⟩ := hown.drew.update law Try.underlying22 (by unfold maxLen; omega) (keyOf_pk hw0 hw1) (plainElem_int Try.underlying3 hwc)
        have HH2 : Hid (HasIs (D.put (pk ks[k].1 ks[k].2) (.lit (.int .i64 c))) ks (k + 1)) := HH.out.step hown.isMap (by omega) _
        have hbel5 : Below w4.heap.size w4 w5 := hbel.drew.grown hgr5 hbel.size (fun j hj => by cases hj; exact Nat.le_refl _)
        unfold pv at hupd
        clear hpos hcells hc0 hc1 hw0 hw1 hwf hm4 hok hlab1 hpar1
        go_wp2_with fail
        go_region
        go_wp2
        go_roundw
        case rel => exact ⟨k + 1, _, by omega, by go_num, hown5, HH2, hbel5⟩
        case measure => simp [intOf]; omega
      · obtain rfl : k = len := by omega
        have hwa : (Lit.int .i32 (a : Int)).wf = true := wf_nat (by omega)
        have hwb : (Lit.int .i32 (b : Int)).wf = true := wf_nat (by omega)
        obtain ⟨w6, hupd, hown6, hgr6⟩ := hown.update law Try.underlying22 (by unfold maxLen; omega) (keyOf_pk hwa hwb) (plainElem_int Try.underlying3 (show (Lit.int .i64 1).wf = true by decide))
        have hmi := mapIs_more hown.isMap hown6 hk4.1 hok HH.out ha hb
        have hbel6 : Below w4.heap.size w4 w6 := hbel.grown hgr6 hbel.size (fun j hj => by cases hj; exact Nat.le_refl _)
        unfold pv at hupd
        clear hm4 hk4 hown hbel hgr6 hown6
        go_wp2_with fail
        refine (door n _ _ _ hn hmi).mono ?_
        rintro e w7 ⟨g2, f2, rfl, hg2, hpar2, hlab2, hbel7⟩
        have hp1 : Par w7 g1 n f1 := World.rowIs.of_block hpar1 ((hbel6.trans (hbel7.mono hbel6.size)).block g1 (World.rowIs.lt hpar1))
        have hB : Below w.heap.size w w7 := hb4.trans ((hbel6.trans (hbel7.mono hbel6.size)).mono hb4.size)
        have HM : Hid (∀ lo hi, lo = min (f1 a) (f1 b) → hi = max (f1 a) (f1 b) → ∀ i, i < n → f2 i = if f1 i = hi then lo else f1 i) := fun lo hi h1 h2 i hi' => lab_merge ha hb hlab1 hlab2 (fun x y => Iff.rfl) h1 h2 i hi'
        have hb1 : ∀ i, i < n → f1 i < 65536 := fun i hi => Nat.lt_of_le_of_lt (hlab1.1 i hi) (by omega)
        have hca := hp1.cell ha
        have hcb := hp1.cell hb
        clear hupd hmi hpar1 hlab1 hlab2 hb4 hbel6 hbel7 hok
        rcases Nat.lt_or_ge (f1 b) (f1 a) with hab | hab
        · have HF : Hid (∀ i, i < n → f2 i = if f1 i = f1 a then f1 b else f1 i) := HM.out (f1 b) (f1 a) (by omega) (by omega)
          go_wp2_with fail
          clear hca hcb HM
          go_loop [17, 18] (fun i _ => ∃ k : Nat, k ≤ n ∧ i = .int .i64 (k : Nat)) (fun i _ => n - (intOf i).toNat)
          case atStart => exact ⟨0, Nat.zero_le _, rfl⟩
          case round =>
            obtain ⟨i, hi, rfl⟩ := hrel
            by_cases hlt2 : i < n
            · have hc1 := hp1.cell hlt2
              have hc2 := hpar2.cell hlt2
              have hf := HF.out i hlt2
              by_cases he : f1 i = f1 a
              · have ht1 : ((f1 i : Int) == (f1 a : Int)) = true := by simp; omega
                have ht2 : ((f2 i : Int) != (f1 b : Int)) = false := by rw [if_pos he] at hf; simp; omega
                clear hf he
                go_wp2_with fail
                go_round
                case rel => first | exact ⟨i + 1, by omega, by go_num⟩ | ((repeat apply Exists.intro); exact ⟨⟨i + 1, by omega, by go_num⟩, rfl⟩)
                case measure => simp [intOf]; omega
              · have ht1 : ((f1 i : Int) == (f1 a : Int)) = false := by simp; omega
                have ht2 : ((f2 i : Int) != (f1 i : Int)) = false := by rw [if_neg he] at hf; simp; omega
                clear hf he
                go_wp2_with fail
                go_round
                case rel => first | exact ⟨i + 1, by omega, by go_num⟩ | ((repeat apply Exists.intro); exact ⟨⟨i + 1, by omega, by go_num⟩, rfl⟩)
                case measure => simp [intOf]; omega
            · go_wp2
              go_ret
              exact ⟨rfl, hB⟩
        · have HF : Hid (∀ i, i < n → f2 i = if f1 i = f1 b then f1 a else f1 i) := HM.out (f1 a) (f1 b) (by omega) (by omega)
          go_wp2_with fail
          clear hca hcb HM
          go_loop [17, 18] (fun i _ => ∃ k : Nat, k ≤ n ∧ i = .int .i64 (k : Nat)) (fun i _ => n - (intOf i).toNat)
          case atStart => exact ⟨0, Nat.zero_le _, rfl⟩
          case round =>
            obtain ⟨i, hi, rfl⟩ := hrel
            by_cases hlt2 : i < n
            · have hc1 := hp1.cell hlt2
              have hc2 := hpar2.cell hlt2
              have hf := HF.out i hlt2
              by_cases he : f1 i = f1 b
              · have ht1 : ((f1 i : Int) == (f1 b : Int)) = true := by simp; omega
                have ht2 : ((f2 i : Int) != (f1 a : Int)) = false := by rw [if_pos he] at hf; simp; omega
                clear hf he
                go_wp2_with fail
                go_round
                case rel => first | exact ⟨i + 1, by omega, by go_num⟩ | ((repeat apply Exists.intro); exact ⟨⟨i + 1, by omega, by go_num⟩, rfl⟩)
                case measure => simp [intOf]; omega
              · have ht1 : ((f1 i : Int) == (f1 b : Int)) = false := by simp; omega
                have ht2 : ((f2 i : Int) != (f1 i : Int)) = false := by rw [if_neg he] at hf; simp; omega
                clear hf he
                go_wp2_with fail
                go_round
                case rel => first | exact ⟨i + 1, by omega, by go_num⟩ | ((repeat apply Exists.intro); exact ⟨⟨i + 1, by omega, by go_num⟩, rfl⟩)
                case measure => simp [intOf]; omega
            · go_wp2
              go_ret
              exact ⟨rfl, hB⟩

end Go.Proofs.Qxb6603019a.MergeB
