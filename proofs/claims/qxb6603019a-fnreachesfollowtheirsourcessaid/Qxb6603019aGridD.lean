/- The walks of gridCloneInts, gridClone32, gridCloneRows, ZZReaches. -/
import Derived.Test.Qxb6603019aGridC
import Derived.Deep.Slices
namespace Go.Proofs.Qxb6603019a.GridD
open Go.RowKit Go.Proofs.Qxb6603019a.GridPlain Go.Proofs.Qxb6603019a.GridA Go.Proofs.Qxb6603019a.GridB Go.Proofs.Qxb6603019a.GridC

theorem info21 : (Try.prog.info? 21).map (fun i => (i.zero, i.size, i.bytes)) = some (some (.int .i32 0), 1, 4) := by kernel_rfl
theorem info27 : (Try.prog.info? 27).map (fun i => (i.zero, i.size, i.bytes)) = some (some (.slice none 0 0), 1, 24) := by kernel_rfl

def IntsPost (n : Nat) (w : World) (e : Ending) (w' : World) : Prop := ∃ a' c', e = .returned (.slice a' n c') ∧ Below w.heap.size w w'

set_option maxRecDepth 100000 in
set_option maxHeartbeats 1600000 in
theorem cloneInts (a : Option Addr) (n cap : Nat) (f : Nat → Int) (w : World) (hn : n ≤ 4096) (hsl : Sl .i64 w a n f) :
    Calls Try.prog 19 #[.slice a n cap] w fun e w' => IntsPost n w e w' := by
  have hnil := fun W => Lib.run_eql_slice_nil (P := Try.prog) W 33 3 a n cap 0 0 Try.underlying33
  cases a with
  | none =>
    obtain rfl := hsl.1 rfl
    go_enter Try.func19, Try.ntmps19
    go_wp2
    go_ret
    exact ⟨none, 0, rfl, Below.refl _ _⟩
  | some x =>
    have hmake := fun W => run_make_row' (P := Try.prog) 33 3 (.int .i64 0) 8 Try.underlying33 info3 rfl .i64 .i64 n (by omega) (by omega) W
    go_enter Try.func19, Try.ntmps19
    go_wp2_with fail
    clear hmake hnil
    have hrow := World.rowIs_made w (.int .i64 0) n 3
    have hbel : Below w.heap.size w (w.alloc (.cells (madeCells #[Value.int .i64 0] n) 3)) := (Below.refl _ _).alloc (Nat.le_refl _) _
    generalize w.alloc (.cells (madeCells #[Value.int .i64 0] n) 3) = W at *
    go_loopw [4] (fun i wr => ∃ k F, k ≤ n ∧ i = .int .i64 (k : Nat) ∧ wr.rowIs w.heap.size 3 n F ∧ Below w.heap.size w wr) (fun i _ => n - (intOf i).toNat)
    case atStart => exact ⟨0, _, Nat.zero_le _, rfl, hrow, hbel⟩
    case round =>
      clear hrow hbel
      obtain ⟨k, F, hk, rfl, hrow, hbel⟩ := hrel
      by_cases hlt : k < n
      · obtain ⟨b, o, hx, hb, hcells⟩ := hsl.2 (by omega)
        obtain rfl : x = ⟨b, o, none⟩ := by simpa using hx
        have hc0 := hcells k hlt
        have hc : wr.cell? ⟨b, o + k, none⟩ = some (.int .i64 (f k)) := by rw [hbel.cell (p := ⟨b, o + k, none⟩) hb]; exact hc0
        have he := hrow.cell (i := k) hlt
        have hf := hrow.frozen k
        have hrow2 := hrow.set k (.int .i64 (f k))
        have hbel2 := hbel.setCell (p := ⟨w.heap.size, k, none⟩) (Nat.le_refl _) (.int .i64 (f k))
        clear hcells hx hc0
        go_wp2_with fail
        go_roundw
        case rel => exact ⟨k + 1, _, by omega, by go_num, hrow2, hbel2⟩
        case measure => simp [intOf]; omega
      · obtain rfl : n = k := by omega
        go_wp2
        go_ret
        exact ⟨_, _, rfl, hbel⟩

/-- a row made behind block g -/
def Own (w : World) (g : Nat) (a : Option Addr) (len : Nat) (f : Nat → Int) : Prop := (a = none ∧ len = 0) ∨ ∃ b, a = some ⟨b, 0, none⟩ ∧ g ≤ b ∧ w.rowIs b 21 len (fun j => .int .i32 (f j))
theorem Own.sl {w : World} {g : Nat} {a : Option Addr} {len : Nat} {f : Nat → Int} (h : Own w g a len f) : Sl .i32 w a len f := by
  rcases h with ⟨rfl, rfl⟩ | ⟨b, rfl, _, hr⟩
  · exact ⟨fun _ => rfl, fun h => by omega⟩
  · exact ⟨(fun h => by cases h), fun _ => ⟨b, 0, rfl, hr.lt, fun j hj => by rw [Nat.zero_add]; exact hr.cell hj⟩⟩
theorem Own.below {w w' : World} {g : Nat} {a : Option Addr} {len : Nat} {f : Nat → Int} (h : Own w g a len f) (hb : Below w.heap.size w w') : Own w' g a len f := by
  rcases h with h | ⟨b, rfl, hg, hr⟩
  · exact .inl h
  · exact .inr ⟨b, rfl, hg, hr.of_block (hb.block b hr.lt)⟩
theorem Own.set {w : World} {g : Nat} {a : Option Addr} {len : Nat} {f : Nat → Int} (h : Own w (g + 1) a len f) (i : Nat) (v : Value) : Own (w.setCell ⟨g, i, none⟩ v) (g + 1) a len f := by
  rcases h with h | ⟨b, rfl, hg, hr⟩
  · exact .inl h
  · exact .inr ⟨b, rfl, hg, hr.setOther (by show b ≠ g; omega) v⟩
theorem Own.mono {w : World} {g g' : Nat} {a : Option Addr} {len : Nat} {f : Nat → Int} (h : Own w g a len f) (hg : g' ≤ g) : Own w g' a len f := by
  rcases h with h | ⟨b, rfl, hb, hr⟩
  · exact .inl h
  · exact .inr ⟨b, rfl, by omega, hr⟩
def Clone32Post (len : Nat) (f : Nat → Int) (w : World) (e : Ending) (w' : World) : Prop := ∃ a' c', e = .returned (.slice a' len c') ∧ Own w' w.heap.size a' len f ∧ Below w.heap.size w w'

set_option maxRecDepth 100000 in
set_option maxHeartbeats 1600000 in
theorem clone32 (a : Option Addr) (n cap : Nat) (f : Nat → Int) (w : World) (hn : n ≤ 4096) (hsl : Sl .i32 w a n f) :
    Calls Try.prog 21 #[.slice a n cap] w fun e w' => Clone32Post n f w e w' := by
  have hnil := fun W => Lib.run_eql_slice_nil (P := Try.prog) W 27 21 a n cap 0 0 Try.underlying27
  cases a with
  | none =>
    obtain rfl := hsl.1 rfl
    go_enter Try.func21, Try.ntmps21
    go_wp2
    go_ret
    exact ⟨none, 0, rfl, .inl ⟨rfl, rfl⟩, Below.refl _ _⟩
  | some x =>
    have hmake := fun W => run_make_row' (P := Try.prog) 27 21 (.int .i32 0) 4 Try.underlying27 info21 rfl .i64 .i64 n (by omega) (by omega) W
    go_enter Try.func21, Try.ntmps21
    go_wp2_with fail
    clear hmake hnil
    have hrow := World.rowIs_made w (.int .i32 0) n 21
    have hbel : Below w.heap.size w (w.alloc (.cells (madeCells #[Value.int .i32 0] n) 21)) := (Below.refl _ _).alloc (Nat.le_refl _) _
    generalize w.alloc (.cells (madeCells #[Value.int .i32 0] n) 21) = W at *
    go_loopw [4] (fun i wr => ∃ k F, k ≤ n ∧ i = .int .i64 (k : Nat) ∧ wr.rowIs w.heap.size 21 n F ∧ Hid (∀ j, j < k → F j = .int .i32 (f j)) ∧ Below w.heap.size w wr) (fun i _ => n - (intOf i).toNat)
    case atStart => exact ⟨0, _, Nat.zero_le _, rfl, hrow, fun j h => by omega, hbel⟩
    case round =>
      clear hrow hbel
      obtain ⟨k, F, hk, rfl, hrow, HF, hbel⟩ := hrel
      by_cases hlt : k < n
      · obtain ⟨b, o, hx, hb, hcells⟩ := hsl.2 (by omega)
        obtain rfl : x = ⟨b, o, none⟩ := by simpa using hx
        have hc0 := hcells k hlt
        have hc : wr.cell? ⟨b, o + k, none⟩ = some (.int .i32 (f k)) := by rw [hbel.cell (p := ⟨b, o + k, none⟩) hb]; exact hc0
        have he := hrow.cell (i := k) hlt
        have hf := hrow.frozen k
        have hrow2 := hrow.set k (.int .i32 (f k))
        have hbel2 := hbel.setCell (p := ⟨w.heap.size, k, none⟩) (Nat.le_refl _) (.int .i32 (f k))
        have HF2 : Hid (∀ j, j < k + 1 → (if j = k then .int .i32 (f k) else F j) = Value.int .i32 (f j)) := by
          intro j hj
          by_cases e : j = k
          · rw [if_pos e, e]
          · rw [if_neg e]; exact HF.out j (by omega)
        clear hcells hx hc0
        go_wp2_with fail
        go_roundw
        case rel => exact ⟨k + 1, _, by omega, by go_num, hrow2, HF2, hbel2⟩
        case measure => simp [intOf]; omega
      · obtain rfl : n = k := by omega
        go_wp2
        go_ret
        exact ⟨_, _, rfl, .inr ⟨_, rfl, Nat.le_refl _, hrow.congr HF.out⟩, hbel⟩

def RowsPost (S n : Nat) (f : Nat → Nat → Int) (w : World) (e : Ending) (w' : World) : Prop := ∃ a' c' rows, e = .returned (.slice a' S c') ∧ Rw w' a' S n rows f ∧ Below w.heap.size w w'
/-- the first s rows are copied -/
def Rows (w wr : World) (S n : Nat) (f : Nat → Nat → Int) (s : Nat) (F : Nat → Value) : Prop :=
  wr.rowIs w.heap.size 27 S F ∧ (∀ j, j < s → ∃ p : Option Addr × Nat, F j = .slice p.1 n p.2 ∧ Own wr (w.heap.size + 1) p.1 n (f j)) ∧ Below w.heap.size w wr
theorem Rows.step {w wr w2 : World} {S n : Nat} {f : Nat → Nat → Int} {s : Nat} {F : Nat → Value} {a' : Option Addr} {c' : Nat} (h : Rows w wr S n f s F) (hb : Below wr.heap.size wr w2) (ho : Own w2 wr.heap.size a' n (f s)) :
    Rows w (w2.setCell ⟨w.heap.size, s, none⟩ (.slice a' n c')) S n f (s + 1) (fun j => if j = s then .slice a' n c' else F j) := by
  have hlt := h.1.lt
  refine ⟨(h.1.of_block (hb.block _ hlt)).set _ _, fun j hj => ?_, (h.2.2.trans (hb.mono (by omega))).setCell (Nat.le_refl _) _⟩
  show ∃ p : Option Addr × Nat, (if j = s then _ else _) = _ ∧ _
  by_cases e : j = s
  · subst e
    exact ⟨(a', c'), by rw [if_pos rfl], (ho.mono (by omega)).set _ _⟩
  · rw [if_neg e]
    obtain ⟨p, h1, h2⟩ := h.2.1 j (by omega)
    exact ⟨p, h1, (h2.below hb).set _ _⟩
theorem Rows.done {w wr : World} {S n : Nat} {f : Nat → Nat → Int} {F : Nat → Value} (h : Rows w wr S n f S F) : ∃ rows, Rw wr (some ⟨w.heap.size, 0, none⟩) S n rows f := by
  obtain ⟨rows, hr⟩ := Go.Deep.choose_lt h.2.1
  refine ⟨rows, (fun h => by cases h), fun _ => ⟨w.heap.size, 0, rfl, h.1.lt, fun s hs => ?_⟩⟩
  rw [Nat.zero_add, h.1.cell hs, (hr s hs).1]
  exact ⟨rfl, (hr s hs).2.sl⟩

set_option maxRecDepth 100000 in
set_option maxHeartbeats 1600000 in
theorem cloneRows (a : Option Addr) (S n cap : Nat) (rows : Nat → Option Addr × Nat) (f : Nat → Nat → Int) (w : World) (hn : n ≤ 4096) (hS : S ≤ 65536) (hrw : Rw w a S n rows f) :
    Calls Try.prog 20 #[.slice a S cap] w fun e w' => RowsPost S n f w e w' := by
  have hnil := fun W => Lib.run_eql_slice_nil (P := Try.prog) W 34 27 a S cap 0 0 Try.underlying34
  cases a with
  | none =>
    obtain rfl := hrw.1 rfl
    go_enter Try.func20, Try.ntmps20
    go_wp2
    go_ret
    exact ⟨none, 0, rows, rfl, hrw, Below.refl _ _⟩
  | some x =>
    have hmake := fun W => run_make_row' (P := Try.prog) 34 27 (.slice none 0 0) 24 Try.underlying34 info27 rfl .i64 .i64 S (by omega) (by omega) W
    go_enter Try.func20, Try.ntmps20
    go_wp2_with fail
    clear hmake hnil
    have hst : Rows w (w.alloc (.cells (madeCells #[.slice none 0 0] S) 27)) S n f 0 (fun _ => .slice none 0 0) :=
      ⟨World.rowIs_made w (.slice none 0 0) S 27, fun j h => by omega, (Below.refl _ _).alloc (Nat.le_refl _) _⟩
    generalize w.alloc (.cells (madeCells #[.slice none 0 0] S) 27) = W at *
    go_loopw [4] (fun i wr => ∃ s F, s ≤ S ∧ i = .int .i64 (s : Nat) ∧ Rows w wr S n f s F) (fun i _ => S - (intOf i).toNat)
    case atStart => exact ⟨0, _, Nat.zero_le _, rfl, hst⟩
    case round =>
      clear hst
      obtain ⟨s, F, hs, rfl, hst⟩ := hrel
      by_cases hlt : s < S
      · obtain ⟨b, o, hx, hb, hcells⟩ := hrw.2 (by omega)
        obtain rfl : x = ⟨b, o, none⟩ := by simpa using hx
        obtain ⟨hc0, hsl0⟩ := hcells s hlt
        have hsl := hsl0.below (Nat.le_refl _) hst.2.2
        have hc : wr.cell? ⟨b, o + s, none⟩ = some (.slice (rows s).1 n (rows s).2) := by rw [hst.2.2.cell (p := ⟨b, o + s, none⟩) hb]; exact hc0
        generalize (rows s).1 = ra at *
        generalize (rows s).2 = rc at *
        clear hcells hx hc0 hsl0
        go_wp2_with fail
        refine (clone32 ra n rc (f s) _ hn hsl).mono ?_
        rintro e w2 ⟨a', c', rfl, hown, hbel⟩
        have hst2 := hst.step (c' := c') hbel hown
        have he := (hst.1.of_block (hbel.block _ hst.1.lt)).cell (i := s) hlt
        have hf := (hst.1.of_block (hbel.block _ hst.1.lt)).frozen s
        clear hst hown hbel hsl hc
        go_wp2_with fail
        go_roundw
        case rel => exact ⟨s + 1, _, by omega, by go_num, hst2⟩
        case measure => simp [intOf]; omega
      · obtain rfl : S = s := by omega
        go_wp2
        go_ret
        obtain ⟨rows', hrw'⟩ := hst.done
        exact ⟨_, _, rows', rfl, hrw', hst.2.2⟩

theorem zzReaches (an : Option Addr) (n capn : Nat) (ac : Option Addr) (S capc : Nat) (rows : Nat → Option Addr × Nat) (af : Option Addr) (m capf : Nat) (cs : Nat → Nat → Nat) (fr : Nat → Nat) (w : World)
    (hn : n ≤ 4096) (hm : m ≤ 4096) (hS : S ≤ 65536) (hrows : Rw w ac S n rows (fun s i => (cs s i : Nat))) (hfrom : Sl .i32 w af m (fun k => (fr k : Nat))) (hcs : ∀ s, s < S → ∀ i, i < n → cs s i < n) (hfr : ∀ k, k < m → fr k < n) :
    Calls Try.prog 22 #[.slice an n capn, .slice ac S capc, .slice af m capf] w fun e w' => ∃ g, ∃ c : Nat → Nat, e = .returned (.slice (some ⟨g, 0, none⟩) m m) ∧ w'.rowIs g 3 m (fun k => .int .i64 (c k : Nat)) ∧ (∀ k, k < m → c k = cnt (fun i => R n cs S i (fr k)) n) ∧ Below w.heap.size w w' := by
  go_enter Try.func22, Try.ntmps22
  go_wp2_with fail
  obtain ⟨cells, hcells⟩ : ∃ cells, cells = #[Value.int IntKind.i64 0, Value.slice an n capn, Value.map none, Value.slice none 0 0, Value.slice ac S capc, Value.slice none 0 0] := ⟨_, rfl⟩
  have hbl : (w.alloc (.cells cells 60)).heap[w.heap.size]? = some (.cells cells 60 (0, 0)) := (MapKept.heap_alloc _ _).1
  have h1 : (w.alloc (.cells cells 60)).cell? ⟨w.heap.size, 1, none⟩ = some (.slice an n capn) := by simp only [World.cell?, hbl]; rw [hcells]; rfl
  have h4 : (w.alloc (.cells cells 60)).cell? ⟨w.heap.size, 4, none⟩ = some (.slice ac S capc) := by simp only [World.cell?, hbl]; rw [hcells]; rfl
  have hbel : Below w.heap.size w (w.alloc (.cells cells 60)) := (Below.refl _ _).alloc (Nat.le_refl _) _
  rw [← hcells]
  refine (reaches w.heap.size an n capn ac S capc rows af m capf cs fr _ hn hm hS (by simp) h1 h4 (hrows.below (Nat.le_refl _) hbel) (hfrom.below (Nat.le_refl _) hbel) hcs hfr).mono ?_
  rintro e w' ⟨g, c, rfl, hrow, hc, hb⟩
  have hB : Below w.heap.size w w' := hbel.trans (hb.mono hbel.size)
  clear hcells hbl h1 h4 hbel hb hrows hfrom hcs hfr
  have HC : Hid (∀ k, k < m → c k = cnt (fun i => R n cs S i (fr k)) n) := hc
  clear hc
  go_wp2
  go_ret
  exact ⟨g, c, rfl, hrow, HC.out, hB⟩
end Go.Proofs.Qxb6603019a.GridD
