/- FnReachesFollowTheirSources: the law's walk. -/
import Derived.Test.Qxb6603019aGridD
namespace Go.Proofs.Qxb6603019a.GridE
open Go.RowKit Go.Proofs.Qxb6603019a.GridPlain Go.Proofs.Qxb6603019a.GridA Go.Proofs.Qxb6603019a.GridB Go.Proofs.Qxb6603019a.GridC Go.Proofs.Qxb6603019a.GridD

theorem Sl.congr {k : IntKind} {w : World} {a : Option Addr} {len : Nat} {f g : Nat → Int} (h : Sl k w a len f) (e : ∀ j, j < len → f j = g j) : Sl k w a len g := by
  refine ⟨h.1, fun hp => ?_⟩
  obtain ⟨b, o, e1, h2, h3⟩ := h.2 hp
  exact ⟨b, o, e1, h2, fun j hj => by rw [← e j hj]; exact h3 j hj⟩
theorem rows_of {w : World} {ac : Option Addr} {S n m : Nat} {rows : Nat → Option Addr × Nat × Nat} {f : Nat → Nat → Int} {fr : Nat → Int} (hr : Rg w ac S rows f) (hd : Dom n S m rows f fr) :
    Rw w ac S n (fun s => ((rows s).1, (rows s).2.2)) (fun s i => ((f s i).toNat : Nat)) := by
  refine ⟨hr.1, fun hp => ?_⟩
  obtain ⟨b, o, e, hb, hc⟩ := hr.2 hp
  refine ⟨b, o, e, hb, fun s hs => ?_⟩
  obtain ⟨h1, h2, _⟩ := hc s hs
  obtain ⟨h3, h4⟩ := hd.1 s hs
  rw [h3] at h1 h2
  exact ⟨h1, Sl.congr h2 fun j hj => by have := h4 j hj; show f s j = ((f s j).toNat : Int); omega⟩
/-- the count of a message that began at v -/
noncomputable def C (n S : Nat) (cs : Nat → Nat → Nat) (v : Nat) : Nat := cnt (fun i => R n cs S i v) n

/-- the law's last loop: where each source was first seen -/
def First (n : Nat) (fr : Nat → Nat) (k : Nat) (d : Nat → Int) : Prop := ∀ v, v < n → d v = -1 ∨ ∃ k' : Nat, d v = k' ∧ k' < k ∧ fr k' = v
theorem First.new {n : Nat} {fr : Nat → Nat} {k : Nat} {d : Nat → Int} (h : First n fr k d) : First n fr (k + 1) (fun j => if j = fr k then (k : Int) else d j) := by
  intro v hv
  show (if v = fr k then (k : Int) else d v) = -1 ∨ _
  by_cases e : v = fr k
  · exact .inr ⟨k, if_pos e, by omega, e.symm⟩
  · rw [if_neg e]
    rcases h v hv with h | ⟨k', h1, h2, h3⟩
    · exact .inl h
    · exact .inr ⟨k', (if_neg e).trans h1, by omega, h3⟩
theorem First.old {n : Nat} {fr : Nat → Nat} {k : Nat} {d : Nat → Int} (h : First n fr k d) : First n fr (k + 1) d := by
  intro v hv
  rcases h v hv with h | ⟨k', h1, h2, h3⟩
  · exact .inl h
  · exact .inr ⟨k', h1, by omega, h3⟩
theorem below_drewN {B : Nat} {w w' : World} (h : Below B w w') (k : Nat) : Below B w (w'.drewN k) := h.trans ⟨rfl, rfl, rfl, Nat.le_refl _, fun _ _ => rfl⟩

set_option maxRecDepth 100000 in
set_option maxHeartbeats 8000000 in
/-- behind the clones -/
theorem walk_in (an : Option Addr) (n cn : Nat) (fn : Nat → Int) (ac : Option Addr) (S cc : Nat) (rows : Nat → Option Addr × Nat × Nat) (f : Nat → Nat → Int) (af : Option Addr) (m cf : Nat) (fi : Nat → Int) (w : World) (hn : n ≤ 4096) (hS : S ≤ 65536) (hm : m ≤ 4096)
    (hsn : Sl .i64 w an n fn) (hr : Rg w ac S rows f) (hsl : Sl .i32 w af m fi) (hw : W32 m fi) :
    Calls Try.prog 6 #[.slice an n cn, .slice ac S cc, .slice af m cf] w fun e w' => e = .returned (.bool true) ∧ Below w.heap.size w w' := by
  go_enter Try.func6, Try.ntmps6
  go_wp2_with fail
  refine (zzBytes an n cn ac S cc rows f af m cf _ (by unfold maxLen; omega) (by unfold maxLen; omega) (by unfold maxLen; omega) hr).mono ?_
  rintro e w1 ⟨r, rfl, rfl⟩
  cases r
  · go_wp2
    go_ret
    exact ⟨rfl, Below.refl _ _⟩
  go_wp2_with fail
  refine (gridBytes an n cn ac S cc rows f af m cf _ hn hS hm hr).mono ?_
  rintro e w2 ⟨z, rfl, rfl, hz⟩
  by_cases hz2 : 1048576 < z
  · go_wp2
    go_ret
    exact ⟨rfl, Below.refl _ _⟩
  go_wp2_with fail
  refine (domainOK n ac S cc rows f af m cf fi _ hn hS hm hr hsl hw).mono ?_
  rintro e w3 ⟨r, rfl, rfl, hd⟩
  cases r
  · go_wp2
    go_ret
    exact ⟨rfl, Below.refl _ _⟩
  have hd := hd rfl
  have hrw := rows_of hr hd
  have hcs : ∀ s, s < S → ∀ i, i < n → (f s i).toNat < n := fun s hs i hi => by have := (hd.1 s hs).2 i hi; omega
  have hfr : ∀ k, k < m → (fi k).toNat < n := fun k hk => by have := hd.2 k hk; omega
  have hsf : Sl .i32 w3 af m (fun k => ((fi k).toNat : Nat)) := Sl.congr hsl fun k hk => by have := hd.2 k hk; omega
  generalize (fun s => ((rows s).1, (rows s).2.2)) = rws at *
  obtain ⟨cs, hcsd⟩ : ∃ cs : Nat → Nat → Nat, cs = fun s i => (f s i).toNat := ⟨_, rfl⟩
  obtain ⟨fr, hfrd⟩ : ∃ fr : Nat → Nat, fr = fun k => (fi k).toNat := ⟨_, rfl⟩
  have hrw : Rw w3 ac S n rws (fun s i => (cs s i : Nat)) := by rw [hcsd]; exact hrw
  have hsf : Sl .i32 w3 af m (fun k => (fr k : Nat)) := by rw [hfrd]; exact hsf
  have hcs : ∀ s, s < S → ∀ i, i < n → cs s i < n := by rw [hcsd]; exact hcs
  have hfr : ∀ k, k < m → fr k < n := by rw [hfrd]; exact hfr
  clear hcsd hfrd hd hr hsl hw hz hz2
  go_wp2_with fail
  refine (cloneInts an n cn fn _ hn hsn).mono ?_
  rintro e w4 ⟨an2, cn2, rfl, hb4⟩
  have hrw4 := hrw.below (Nat.le_refl _) hb4
  have hsf4 := hsf.below (Nat.le_refl _) hb4
  clear hrw hsf hsn
  go_wp2_with fail
  refine (cloneRows ac S n cc rws _ _ hn hS hrw4).mono ?_
  rintro e w5 ⟨ac2, cc2, rws2, rfl, hrw5, hb5⟩
  have hsf5 := hsf4.below (Nat.le_refl _) hb5
  have hB5 := hb4.trans (hb5.mono hb4.size)
  clear hrw4 hsf4 hb4 hb5
  go_wp2_with fail
  refine (clone32 af m cf _ _ hm hsf5).mono ?_
  rintro e w6 ⟨af2, cf2, rfl, hown6, hb6⟩
  have hsf6 := hown6.sl
  have hrw6 := hrw5.below (Nat.le_refl _) hb6
  have hB6 := hB5.trans (hb6.mono hB5.size)
  clear hrw5 hsf5 hb6 hB5 hown6
  go_wp2_with fail
  refine (zzReaches an2 n cn2 ac2 S cc2 rws2 af2 m cf2 cs fr _ hn hm hS hrw6 hsf6 hcs hfr).mono ?_
  rintro e w7 ⟨g1, c1, rfl, hrow1, hc1, hb7⟩
  have hsf7 := hsf6.below (Nat.le_refl _) hb7
  have hrw7 := hrw6.below (Nat.le_refl _) hb7
  have hB7 := hB6.trans (hb7.mono hB6.size)
  have HC1 : Hid (∀ k, k < m → c1 k = C n S cs (fr k)) := hc1
  clear hrw6 hsf6 hb7 hB6 hc1
  have hmake := fun W => run_make_row' (P := Try.prog) 27 21 (.int .i32 0) 4 Try.underlying27 info21 rfl .i64 .i64 m (by omega) (by omega) W
  go_wp2_with fail
  clear hmake
  have hrow := World.rowIs_made w7 (.int .i32 0) m 21
  have hbel : Below w7.heap.size w7 (w7.alloc (.cells (madeCells #[Value.int .i32 0] m) 21)) := (Below.refl _ _).alloc (Nat.le_refl _) _
  generalize w7.alloc (.cells (madeCells #[Value.int .i32 0] m) 21) = W at *
  go_loopw [11] (fun i wr => ∃ k F, k ≤ m ∧ i = .int .i64 (k : Nat) ∧ wr.rowIs w7.heap.size 21 m F ∧ Hid (∀ j, j < k → F j = .int .i32 (fr (m - 1 - j) : Nat)) ∧ Below w7.heap.size w7 wr) (fun i _ => m - (intOf i).toNat)
  case atStart => exact ⟨0, _, Nat.zero_le _, rfl, hrow, fun j h => by omega, hbel⟩
  case round =>
    clear hrow hbel
    obtain ⟨k, F, hk, rfl, hrow, HF, hbel⟩ := hrel
    by_cases hlt : k < m
    · obtain ⟨b, o, rfl, hb, hcells⟩ := hsf7.2 (by omega)
      obtain ⟨q, hq, HQ, hqm⟩ : ∃ q : Nat, (m : Int) - 1 - (k : Int) = (q : Int) ∧ Hid (q = m - 1 - k) ∧ q < m := ⟨m - 1 - k, by omega, rfl, by omega⟩
      have hc0 := hcells q hqm
      have hc : wr.cell? ⟨b, o + q, none⟩ = some (.int .i32 (fr q : Nat)) := by rw [hbel.cell (p := ⟨b, o + q, none⟩) hb]; exact hc0
      have he := hrow.cell (i := k) hlt
      have hf := hrow.frozen k
      have hrow2 := hrow.set k (.int .i32 (fr q : Nat))
      have hbel2 := hbel.setCell (p := ⟨w7.heap.size, k, none⟩) (Nat.le_refl _) (.int .i32 (fr q : Nat))
      have HF2 : Hid (∀ j, j < k + 1 → (if j = k then .int .i32 (fr q : Nat) else F j) = Value.int .i32 (fr (m - 1 - j) : Nat)) := by
        intro j hj
        by_cases e : j = k
        · rw [if_pos e, e, HQ.out]
        · rw [if_neg e]; exact HF.out j (by omega)
      clear hcells hc0
      go_wp2_with fail
      go_roundw
      case rel => exact ⟨k + 1, _, by omega, by go_num, hrow2, HF2, hbel2⟩
      case measure => simp [intOf]; omega
    · obtain rfl : m = k := by omega
      have hrow' := hrow.congr HF.out
      have hsr : Sl .i32 wr (some ⟨w7.heap.size, 0, none⟩) m (fun k => (fr (m - 1 - k) : Nat)) := ⟨(fun h => by cases h), fun _ => ⟨_, 0, rfl, hrow'.lt, fun j hj => by rw [Nat.zero_add]; exact hrow'.cell hj⟩⟩
      have hfr2 : ∀ k, k < m → fr (m - 1 - k) < n := fun k hk => hfr _ (by omega)
      have hrw8 := hrw7.below (Nat.le_refl _) hbel
      have hsf8 := hsf7.below (Nat.le_refl _) hbel
      have hrow18 : wr.rowIs g1 3 m (fun k => .int .i64 (c1 k : Nat)) := hrow1.of_block (hbel.block g1 hrow1.lt)
      have hB8 := hB7.trans (hbel.mono hB7.size)
      clear hrow' hrow HF hbel hrw7 hsf7 hrow1 hB7
      generalize w7.heap.size = gr at *
      go_wp2_with fail
      refine (zzReaches an2 n cn2 ac2 S cc2 rws2 (some ⟨gr, 0, none⟩) m m cs (fun k => fr (m - 1 - k)) _ hn hm hS hrw8 hsr hcs hfr2).mono ?_
      rintro e w9 ⟨g2, c2, rfl, hrow2, hc2, hb9⟩
      have hsf9 := hsf8.below (Nat.le_refl _) hb9
      have hrow19 : w9.rowIs g1 3 m (fun k => .int .i64 (c1 k : Nat)) := hrow18.of_block (hb9.block g1 hrow18.lt)
      have hB9 := hB8.trans (hb9.mono hB8.size)
      have HC2 : Hid (∀ k, k < m → c2 k = C n S cs (fr (m - 1 - k))) := hc2
      clear hc2 hb9 hB8 hrow18 hsf8 hrw8 hsr hfr2
      have hmake := fun W => run_make_row' (P := Try.prog) 33 3 (.int .i64 0) 8 Try.underlying33 info3 rfl .i64 .i64 n (by omega) (by omega) W
      go_wp2_with fail
      clear hmake
      have hrow := World.rowIs_made w9 (.int .i64 0) n 3
      have hbel : Below w9.heap.size w9 (w9.alloc (.cells (madeCells #[Value.int .i64 0] n) 3)) := (Below.refl _ _).alloc (Nat.le_refl _) _
      generalize w9.alloc (.cells (madeCells #[Value.int .i64 0] n) 3) = W at *
      go_loopw [14] (fun i wr => ∃ k F, k ≤ n ∧ i = .int .i64 (k : Nat) ∧ wr.rowIs w9.heap.size 3 n F ∧ Hid (∀ j, j < k → F j = .int .i64 (-1)) ∧ Below w9.heap.size w9 wr) (fun i _ => n - (intOf i).toNat)
      case atStart => exact ⟨0, _, Nat.zero_le _, rfl, hrow, fun j h => by omega, hbel⟩
      case round =>
        clear hrow hbel
        obtain ⟨k, F, hk, rfl, hrow, HF, hbel⟩ := hrel
        by_cases hlt : k < n
        · have he := hrow.cell (i := k) hlt
          have hf := hrow.frozen k
          have hrow2 := hrow.set k (.int .i64 (-1))
          have hbel2 := hbel.setCell (p := ⟨w9.heap.size, k, none⟩) (Nat.le_refl _) (.int .i64 (-1))
          have HF2 : Hid (∀ j, j < k + 1 → (if j = k then .int .i64 (-1) else F j) = Value.int .i64 (-1)) := by
            intro j hj
            by_cases e : j = k
            · rw [if_pos e]
            · rw [if_neg e]; exact HF.out j (by omega)
          go_wp2_with fail
          go_roundw
          case rel => exact ⟨k + 1, _, by omega, by go_num, hrow2, HF2, hbel2⟩
          case measure => simp [intOf]; omega
        · obtain rfl : n = k := by omega
          have hrow' : wr.rowIs w9.heap.size 3 n (fun j => .int .i64 ((fun _ => (-1 : Int)) j)) := hrow.congr HF.out
          clear hrow HF
          go_wp2_with fail
          go_loopw [15] (fun i wr => ∃ k d, k ≤ m ∧ i = .int .i64 (k : Nat) ∧ wr.rowIs w9.heap.size 3 n (fun j => .int .i64 ((d : Nat → Int) j)) ∧ Hid (First n fr k d) ∧ Below w9.heap.size w9 wr) (fun i _ => m - (intOf i).toNat)
          case atStart => exact ⟨0, _, Nat.zero_le _, rfl, hrow', fun v _ => .inl rfl, hbel⟩
          case round =>
            clear hrow' hbel
            obtain ⟨k, d, hk, rfl, hrow, HD, hbel⟩ := hrel
            by_cases hlt : k < m
            · obtain ⟨b, o, rfl, hb, hcells⟩ := hsf9.2 (by omega)
              have hc0 := hcells k hlt
              have hc : wr.cell? ⟨b, o + k, none⟩ = some (.int .i32 (fr k : Nat)) := by rw [hbel.cell (p := ⟨b, o + k, none⟩) hb]; exact hc0
              obtain ⟨q, hq, HQ, hqm⟩ : ∃ q : Nat, (m : Int) - 1 - (k : Int) = (q : Int) ∧ Hid (q = m - 1 - k) ∧ q < m := ⟨m - 1 - k, by omega, rfl, by omega⟩
              have hg1 : wr.rowIs g1 3 m (fun k => .int .i64 (c1 k : Nat)) := hrow19.of_block (hbel.block g1 hrow19.lt)
              have hg2 : wr.rowIs g2 3 m (fun k => .int .i64 (c2 k : Nat)) := hrow2.of_block (hbel.block g2 hrow2.lt)
              obtain ⟨x, hx⟩ : ∃ x, x = c1 q := ⟨_, rfl⟩
              have hcq : wr.cell? ⟨g1, q, none⟩ = some (.int .i64 (x : Nat)) := by rw [hx]; exact hg1.cell hqm
              have hck : wr.cell? ⟨g2, k, none⟩ = some (.int .i64 (x : Nat)) := by
                have e : x = c2 k := by rw [hx, HC1.out q hqm, HC2.out k hlt, HQ.out]
                rw [e]; exact hg2.cell hlt
              have hv := hfr k hlt
              clear hcells hc0 hx
              go_wp2_with fail
              go_quiet (fail)
              have hrow' : (wr.drewN nq).rowIs w9.heap.size 3 n (fun j => .int .i64 (d j)) := hrow
              have hbel' : Below w9.heap.size w9 (wr.drewN nq) := below_drewN hbel nq
              have hc' : (wr.drewN nq).cell? ⟨b, o + k, none⟩ = some (.int .i32 (fr k : Nat)) := hc
              have hg1' : (wr.drewN nq).rowIs g1 3 m (fun k => .int .i64 (c1 k : Nat)) := hg1
              clear hrow hbel hc hcq hck hg1 hg2 hq HQ
              generalize wr.drewN nq = w2 at *
              have hcd0 := hrow'.cell hv
              have hfz := hrow'.frozen (fr k)
              obtain ⟨v, HV⟩ : ∃ v, Hid (v = fr k) := ⟨_, rfl⟩
              rcases HD.out (fr k) hv with hdv | ⟨k', hdv, hk', hfk⟩
              · have hcd : w2.cell? ⟨w9.heap.size, fr k, none⟩ = some (.int .i64 (-1)) := by rw [← hdv]; exact hcd0
                have hst2 : (w2.setCell ⟨w9.heap.size, fr k, none⟩ (.int .i64 (k : Nat))).rowIs w9.heap.size 3 n (fun j => .int .i64 ((fun j => if j = fr k then (k : Int) else d j) j)) := by
                  refine (hrow'.set (fr k) (.int .i64 (k : Nat))).congr fun j _ => ?_
                  show _ = Value.int .i64 (if j = fr k then (k : Int) else d j)
                  split <;> rfl
                have HD2 : Hid (First n fr (k + 1) (fun j => if j = fr k then (k : Int) else d j)) := First.new HD.out
                have hbel2 := hbel'.setCell (p := ⟨w9.heap.size, fr k, none⟩) (Nat.le_refl _) (.int .i64 (k : Nat))
                clear hcd0 hdv hrow'
                go_wp2_with fail
                go_roundw
                case rel => exact ⟨k + 1, _, by omega, by go_num, hst2, HD2, hbel2⟩
                case measure => simp [intOf]; omega
              · have hcd : w2.cell? ⟨w9.heap.size, fr k, none⟩ = some (.int .i64 (k' : Nat)) := by rw [← hdv]; exact hcd0
                obtain ⟨y, hy⟩ : ∃ y, y = c1 k := ⟨_, rfl⟩
                have hgk : w2.cell? ⟨g1, k, none⟩ = some (.int .i64 (y : Nat)) := by rw [hy]; exact hg1'.cell hlt
                have hgk' : w2.cell? ⟨g1, k', none⟩ = some (.int .i64 (y : Nat)) := by
                  have e : y = c1 k' := by rw [hy, HC1.out k hlt, HC1.out k' (by omega), hfk]
                  rw [e]; exact hg1'.cell (by omega)
                have HD2 : Hid (First n fr (k + 1) d) := First.old HD.out
                clear hcd0 hdv hfk hy
                go_wp2_with fail
                go_quiet (fail)
                go_wp2
                go_roundw
                case rel => exact ⟨k + 1, _, by omega, by go_num, hrow', HD2, below_drewN hbel' _⟩
                case measure => simp [intOf]; omega
            · have hB := hB9.trans (hbel.mono hB9.size)
              go_wp2
              go_ret
              exact ⟨rfl, hB⟩

set_option maxRecDepth 100000 in
set_option maxHeartbeats 1600000 in
theorem walk (an : Option Addr) (n cn : Nat) (fn : Nat → Int) (ac : Option Addr) (S cc : Nat) (rows : Nat → Option Addr × Nat × Nat) (f : Nat → Nat → Int) (af : Option Addr) (m cf : Nat) (fi : Nat → Int) (w : World) (hn : n ≤ maxLen) (hS : S ≤ maxLen) (hm : m ≤ maxLen)
    (hsn : Sl .i64 w an n fn) (hr : Rg w ac S rows f) (hsl : Sl .i32 w af m fi) (hw : W32 m fi) :
    Calls Try.prog 6 #[.slice an n cn, .slice ac S cc, .slice af m cf] w fun e w' => e = .returned (.bool true) ∧ Below w.heap.size w w' := by
  by_cases c1 : n ≤ 4096 ∧ m ≤ 4096 ∧ S ≤ 65536
  · exact walk_in an n cn fn ac S cc rows f af m cf fi w c1.1 c1.2.2 c1.2.1 hsn hr hsl hw
  · go_enter Try.func6, Try.ntmps6
    go_wp2_with fail
    refine (zzBytes an n cn ac S cc rows f af m cf _ hn hS hm hr).mono ?_
    rintro e w1 ⟨r, rfl, rfl⟩
    unfold maxLen at hn hS hm
    clear hsn hr hsl hw
    cases r
    · go_wp2
      go_ret
      exact ⟨rfl, Below.refl _ _⟩
    · by_cases c2 : 4096 < n
      · go_wp2
        go_ret
        exact ⟨rfl, Below.refl _ _⟩
      by_cases c3 : 4096 < m
      · go_wp2
        go_ret
        exact ⟨rfl, Below.refl _ _⟩
      have c4 : 65536 < S := by omega
      clear c1
      go_wp2
      go_ret
      exact ⟨rfl, Below.refl _ _⟩
end Go.Proofs.Qxb6603019a.GridE
