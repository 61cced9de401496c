/- The walks of compCloneKeys and compCopyMap. -/
import Derived.Test.Qxb6603019aKeys
namespace Go.Proofs.Qxb6603019a.Clone
open Go.RowKit Go.Maps Go.Proofs.Qxb6603019a.Lab Go.Proofs.Qxb6603019a.Root Go.Proofs.Qxb6603019a.Base Go.Proofs.Qxb6603019a.Comp Go.Proofs.Qxb6603019a.Keys

theorem info31 : (Try.prog.info? 31).map (fun i => (i.zero, i.size, i.bytes)) = some (some (.agg #[.int .i32 0, .int .i32 0]), 2, 8) := by kernel_rfl

theorem make31 (len : Nat) (hl : len ≤ 65536) (W : World) : (Instr.makeSlice 23 (.int .i64 (len : Int)) (.int .i64 (len : Int))).run Try.prog W = .ok (.slice (some ⟨W.heap.size, 0, none⟩) len len) (W.alloc (.cells (madeCells #[.int .i32 0, .int .i32 0] (len * 2)) 31)) := by
  obtain ⟨i0, hi, hi0, hi1, hi2⟩ := info_parts info31
  have hr := run_make (P := Try.prog) W 23 31 i0 _ Try.underlying23 hi hi0 .i64 .i64 len len (by omega) (Int.le_refl _) (by rw [hi2]; omega) (by omega)
  simp only [Int.toNat_natCast, hi1] at hr
  exact hr
/-- the first k pairs of the row are those of ks -/
def Head (f : Nat → Value) (ks : List (Int × Int)) (k : Nat) : Prop := ∀ j (h : j < ks.length), j < k → f (j * 2) = .int .i32 ks[j].1 ∧ f (j * 2 + 1) = .int .i32 ks[j].2
def ClonePost (len : Nat) (ks : List (Int × Int)) (w : World) (e : Ending) (w' : World) : Prop := ∃ a' c', e = .returned (.slice a' len c') ∧ KeysIs w' a' len ks ∧ Below w.heap.size w w'

theorem row31 (w : World) (len : Nat) : (w.alloc (.cells (madeCells #[Value.int .i32 0, .int .i32 0] (len * 2)) 31)).rowIs w.heap.size 31 (len * 2) (fun _ => .int .i32 0) := by
  have h := World.rowIs_alloc w (madeCells #[Value.int .i32 0, .int .i32 0] (len * 2)) 31 (fun _ => .int .i32 0) (fun i hi => by
    rw [size_madeCells] at hi
    rcases Nat.mod_two_eq_zero_or_one i with e | e <;> simp [madeCells, hi, e])
  rwa [size_madeCells] at h
theorem head_step {f : Nat → Value} {ks : List (Int × Int)} {k : Nat} (hk : k < ks.length) (h : Head f ks k) :
    Head (fun j => if j = k * 2 + 1 then .int .i32 ks[k].2 else if j = k * 2 then .int .i32 ks[k].1 else f j) ks (k + 1) := by
  intro j hj hjk
  by_cases e : j = k
  · subst e
    constructor
    · show (if j * 2 = j * 2 + 1 then _ else if j * 2 = j * 2 then _ else _) = _
      rw [if_neg (by omega), if_pos rfl]
    · show (if j * 2 + 1 = j * 2 + 1 then _ else if j * 2 + 1 = j * 2 then _ else _) = _
      rw [if_pos rfl]
  · have h2 := h j hj (by omega)
    constructor
    · show (if j * 2 = k * 2 + 1 then _ else if j * 2 = k * 2 then _ else _) = _
      rw [if_neg (by omega), if_neg (by omega)]; exact h2.1
    · show (if j * 2 + 1 = k * 2 + 1 then _ else if j * 2 + 1 = k * 2 then _ else _) = _
      rw [if_neg (by omega), if_neg (by omega)]; exact h2.2
theorem keys_of_row {w : World} {b len : Nat} {f : Nat → Value} {ks : List (Int × Int)} (hl : ks.length = len) (hwf : ∀ p ∈ ks, (Lit.int .i32 p.1).wf = true ∧ (Lit.int .i32 p.2).wf = true) (hrow : w.rowIs b 31 (len * 2) f) (hf : Head f ks len) : KeysIs w (some ⟨b, 0, none⟩) len ks := by
  refine ⟨hl, hwf, (fun h => by cases h), fun _ => ⟨b, 0, rfl, hrow.lt, fun j hj => ?_⟩⟩
  obtain ⟨h1, h2⟩ := hf j hj (by omega)
  rw [Nat.zero_add, hrow.cell (by omega), hrow.cell (by omega), h1, h2]
  exact ⟨rfl, rfl⟩

set_option maxHeartbeats 800000 in
theorem cloneKeys (a : Option Addr) (len cap : Nat) (ks : List (Int × Int)) (w : World) (hl : len ≤ 65536) (hk : KeysIs w a len ks) :
    Calls Try.prog 10 #[.slice a len cap] w fun e w' => ClonePost len ks w e w' := by
  have hnil := fun W => Lib.run_eql_slice_nil (P := Try.prog) W 23 31 a len cap 0 0 Try.underlying23
  cases a with
  | none =>
    obtain rfl := hk.2.2.1 rfl
    go_enter Try.func10, Try.ntmps10
    go_wp2
    go_ret
    exact ⟨none, 0, rfl, hk, Below.refl _ _⟩
  | some x =>
    have hmake := make31 len hl
    go_enter Try.func10, Try.ntmps10
    go_wp2_with fail
    clear hmake hnil
    have hrow : (w.alloc (.cells (madeCells #[Value.int .i32 0, .int .i32 0] (len * 2)) 31)).rowIs w.heap.size 31 (len * 2) (fun _ => .int .i32 0) := row31 w len
    have hbel : Below w.heap.size w (w.alloc (.cells (madeCells #[Value.int .i32 0, .int .i32 0] (len * 2)) 31)) := (Below.refl _ _).alloc (Nat.le_refl _) _
    generalize w.alloc (.cells (madeCells #[Value.int .i32 0, .int .i32 0] (len * 2)) 31) = W at *
    go_loopw [4] (fun i wr => ∃ k f, k ≤ len ∧ i = .int .i64 (k : Nat) ∧ wr.rowIs w.heap.size 31 (len * 2) f ∧ Hid (Head f ks k) ∧ Below w.heap.size w wr) (fun i _ => len - (intOf i).toNat)
    case atStart => exact ⟨0, _, Nat.zero_le _, rfl, hrow, fun j h h2 => by omega, hbel⟩
    case round =>
      clear hrow hbel
      obtain ⟨k, f, hk', rfl, hrow, HF, hbel⟩ := hrel
      by_cases hlt : k < len
      · obtain ⟨hkl, hwf, _, hpos⟩ := hk
        obtain ⟨b, o, hx, hb, hcells⟩ := hpos (by omega)
        obtain rfl : x = ⟨b, o, none⟩ := by simpa using hx
        obtain ⟨hc0, hc1⟩ := hcells k (by omega)
        have hd0 : wr.cell? ⟨b, o + k * 2, none⟩ = some (.int .i32 ks[k].1) := by rw [hbel.cell (p := ⟨b, o + k * 2, none⟩) hb]; exact hc0
        have hd1 : wr.cell? ⟨b, o + k * 2 + 1, none⟩ = some (.int .i32 ks[k].2) := by rw [hbel.cell (p := ⟨b, o + k * 2 + 1, none⟩) hb]; exact hc1
        have he0 := hrow.cell (i := k * 2) (by omega)
        have he1 := hrow.cell (i := k * 2 + 1) (by omega)
        have hf0 := hrow.frozen (k * 2)
        have hf1 := hrow.frozen (k * 2 + 1)
        clear hpos hcells hx hc0 hc1
        go_wp2_with fail
        have hrow2 := (hrow.set (k * 2) (.int .i32 ks[k].1)).set (k * 2 + 1) (.int .i32 ks[k].2)
        have hbel2 := (hbel.setCell (p := ⟨w.heap.size, k * 2, none⟩) (Nat.le_refl _) (.int .i32 ks[k].1)).setCell (p := ⟨w.heap.size, k * 2 + 1, none⟩) (Nat.le_refl _) (.int .i32 ks[k].2)
        go_roundw
        case rel => exact ⟨k + 1, _, by omega, by go_num, hrow2, head_step (by omega) HF.out, hbel2⟩
        case measure => simp [intOf]; omega
      · obtain rfl : k = len := by omega
        have hks := keys_of_row hk.1 hk.2.1 hrow HF.out
        clear hk
        go_wp2
        go_ret
        exact ⟨_, _, rfl, hks, hbel⟩

/-- the map holds just the first k keys -/
def HasIs (D : DataW Unit) (ks : List (Int × Int)) (k : Nat) : Prop := ∀ kl, Maps.has D kl = true ↔ ∃ j, ∃ h : j < ks.length, j < k ∧ kl = pk ks[j].1 ks[j].2
theorem HasIs.start (ks : List (Int × Int)) : HasIs (.map []) ks 0 := by
  intro kl
  constructor
  · intro h; simp [Maps.has] at h
  · rintro ⟨j, _, h, _⟩; omega
theorem HasIs.step {D : DataW Unit} {ks : List (Int × Int)} {k : Nat} (h : HasIs D ks k) (hD : IsMap D) (hk : k < ks.length) (d : DataW Unit) : HasIs (D.put (pk ks[k].1 ks[k].2) d) ks (k + 1) := by
  intro kl
  by_cases e : kl = pk ks[k].1 ks[k].2
  · subst e
    rw [has_put_same hD (isKey _ _)]
    exact ⟨fun _ => ⟨k, hk, by omega, rfl⟩, fun _ => rfl⟩
  · rw [has_put_other e, h kl]
    constructor
    · rintro ⟨j, hj, h1, h2⟩; exact ⟨j, hj, by omega, h2⟩
    · rintro ⟨j, hj, h1, h2⟩
      refine ⟨j, hj, ?_, h2⟩
      have : j ≠ k := by rintro rfl; exact e h2
      omega

theorem makeMap_hint (x : Int) (W : World) : (Instr.makeMap 22 (some (.int .i64 x))).run Try.prog W = .ok (.map (some W.heap.size)) (W.alloc (.map #[] 0)) := by
  simp [Instr.makeMap, asInt, asIntOf, Result.andThen]
theorem mapOk_below {w w' : World} {mo : Option Nat} {sz : Nat} (h : MapOk w mo sz) (hb : Below w.heap.size w w') : MapOk w' mo sz :=
  ⟨h.1, fun W hW => h.2 W (hb.trans (hW.mono hb.size))⟩
theorem keys_below {w w' : World} {a : Option Addr} {len : Nat} {ks : List (Int × Int)} (h : KeysIs w a len ks) (hb : Below w.heap.size w w') : KeysIs w' a len ks := by
  refine ⟨h.1, h.2.1, h.2.2.1, fun hp => ?_⟩
  obtain ⟨b, o, e, hlt, hc⟩ := h.2.2.2 hp
  refine ⟨b, o, e, Nat.lt_of_lt_of_le hlt hb.size, fun j hj => ?_⟩
  rw [hb.cell (p := ⟨b, o + j * 2, none⟩) hlt, hb.cell (p := ⟨b, o + j * 2 + 1, none⟩) hlt]
  exact hc j hj

set_option maxHeartbeats 800000 in
theorem copyMap (bm0 : Nat) (sz : Nat) (a : Option Addr) (len cap : Nat) (ks : List (Int × Int)) (w : World) (hl : len ≤ 65536) (hm : MapOk w (some bm0) sz) (hk : KeysIs w a len ks) :
    Calls Try.prog 11 #[.map (some bm0), .slice a len cap] w fun e w' => ∃ D : DataW Unit, e = .returned (.map (some w.heap.size)) ∧ w'.ownsMap Try.prog 31 (plainElem Try.prog 3) w.heap.size len D ∧ HasIs D ks len ∧ Below w.heap.size w w' := by
  have hnil := fun W => run_eql_map_nil (P := Try.prog) W 22 31 3 (some bm0) Try.underlying22
  have hmk := makeMap_hint (len : Int)
  go_enter Try.func11, Try.ntmps11
  go_wp2_with fail
  have hown0 := World.ownsMap_made (H := Unit) w Try.prog 31 (plainElem Try.prog 3)
  have hbel0 : Below w.heap.size w (w.alloc (.map #[] 0)) := (Below.refl _ _).alloc (Nat.le_refl _) _
  generalize w.alloc (.map #[] 0) = W at *
  clear hnil hmk
  go_loopw [6] (fun i wr => ∃ k : Nat, ∃ D : DataW Unit, k ≤ len ∧ i = .int .i64 (k : Nat) ∧ wr.ownsMap Try.prog 31 (plainElem Try.prog 3) w.heap.size k D ∧ Hid (HasIs D ks k) ∧ Below w.heap.size w wr) (fun i _ => len - (intOf i).toNat)
  case atStart => exact ⟨0, _, Nat.zero_le _, rfl, hown0, HasIs.start ks, hbel0⟩
  case round =>
    clear hown0 hbel0
    obtain ⟨k, D, hk', rfl, hown, HH, hbel⟩ := hrel
    by_cases hlt : k < len
    · obtain ⟨hkl, hwf, _, hpos⟩ := hk
      obtain ⟨b, o, rfl, hb, hcells⟩ := hpos (by omega)
      obtain ⟨hc0, hc1⟩ := hcells k (by omega)
      obtain ⟨hw0, hw1⟩ := hwf ks[k] (List.getElem_mem _)
      have hd0 : wr.cell? ⟨b, o + k * 2, none⟩ = some (.int .i32 ks[k].1) := by rw [hbel.cell (p := ⟨b, o + k * 2, none⟩) hb]; exact hc0
      have hd1 : wr.cell? ⟨b, o + k * 2 + 1, none⟩ = some (.int .i32 ks[k].2) := by rw [hbel.cell (p := ⟨b, o + k * 2 + 1, none⟩) hb]; exact hc1
      obtain ⟨c, r, hwc, _, hlook⟩ := (hm.2 wr.drew hbel.drew).2 _ _ hw0 hw1
      obtain ⟨w2, hupd, hown2, hgr2⟩ := hown.drew.update law Try.underlying22 (by unfold maxLen; omega) (keyOf_pk hw0 hw1) (plainElem_int Try.underlying3 hwc)
      have HH2 : Hid (HasIs (D.put (pk ks[k].1 ks[k].2) (.lit (.int .i64 c))) ks (k + 1)) := HH.out.step hown.isMap (by omega) _
      have hbel2 : Below w.heap.size w w2 := hbel.drew.grown hgr2 hbel.size (fun j hj => by cases hj; exact Nat.le_refl _)
      unfold pv at hupd
      clear hpos hcells hc0 hc1 hw0 hw1 hwf
      go_wp2_with fail
      go_region
      go_wp2
      go_roundw
      case rel => exact ⟨k + 1, _, by omega, by go_num, hown2, HH2, hbel2⟩
      case measure => simp [intOf]; omega
    · obtain rfl : k = len := by omega
      clear hm hk
      go_wp2
      go_ret
      exact ⟨D, rfl, hown, HH.out, hbel⟩

end Go.Proofs.Qxb6603019a.Clone
