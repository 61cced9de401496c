/- The walks of zzBytes, gridBytes, gridSpanOK, gridDomainOK. -/
import Derived.Test.Qxb6603019aGridB
namespace Go.Proofs.Qxb6603019a.GridC
open Go.RowKit Go.Proofs.Qxb6603019a.GridPlain Go.Proofs.Qxb6603019a.GridA Go.Proofs.Qxb6603019a.GridB

/-- every number is an int32 -/
def W32 (len : Nat) (f : Nat → Int) : Prop := ∀ j, j < len → -2147483648 ≤ f j ∧ f j ≤ 2147483647
/-- a slice of slices of int32 -/
def Rg (w : World) (a : Option Addr) (S : Nat) (rows : Nat → Option Addr × Nat × Nat) (f : Nat → Nat → Int) : Prop :=
  (a = none → S = 0) ∧ (0 < S → ∃ b o, a = some ⟨b, o, none⟩ ∧ b < w.heap.size ∧ ∀ s, s < S → w.cell? ⟨b, o + s, none⟩ = some (.slice (rows s).1 (rows s).2.1 (rows s).2.2) ∧ Sl .i32 w (rows s).1 (rows s).2.1 (f s) ∧ W32 (rows s).2.1 (f s) ∧ (rows s).2.1 ≤ maxLen)
def BoolPost (w : World) (e : Ending) (w' : World) : Prop := ∃ r : Bool, e = .returned (.bool r) ∧ w' = w
theorem BoolPost.mk (w : World) (r : Bool) : BoolPost w (.returned (.bool r)) w := ⟨r, rfl, rfl⟩

set_option maxRecDepth 100000 in
set_option maxHeartbeats 1600000 in
theorem zzBytes (an : Option Addr) (n cn : Nat) (ac : Option Addr) (S cc : Nat) (rows : Nat → Option Addr × Nat × Nat) (f : Nat → Nat → Int) (af : Option Addr) (m cf : Nat) (w : World) (hn : n ≤ maxLen) (hS : S ≤ maxLen) (hm : m ≤ maxLen) (hr : Rg w ac S rows f) :
    Calls Try.prog 23 #[.slice an n cn, .slice ac S cc, .slice af m cf] w fun e w' => BoolPost w e w' := by
  unfold maxLen at hn hS hm
  by_cases c1 : n ≤ 1048576 ∧ S ≤ 1048576 ∧ n + S ≤ 1048576
  · obtain ⟨c1, c2, c3⟩ := c1
    go_enter Try.func23, Try.ntmps23
    go_wp2_with fail
    go_loopw [7, 8] (fun t i wr => ∃ s z : Nat, wr = w ∧ s ≤ S ∧ i = .int .i64 s ∧ z ≤ 1048576 ∧ t = .int .i64 z) (fun _ i _ => S - (intOf i).toNat)
    case atStart => exact ⟨0, n + S, rfl, Nat.zero_le _, rfl, by omega, by go_num⟩
    case round =>
      obtain ⟨s, z, rfl, hs, rfl, hz, rfl⟩ := hrel
      by_cases hlt : s < S
      · obtain ⟨b, o, rfl, hb, hcells⟩ := hr.2 (by omega)
        obtain ⟨hc, _, _, hl⟩ := hcells s hlt
        generalize (rows s).1 = ra at *
        generalize (rows s).2.1 = rl at *
        generalize (rows s).2.2 = rc at *
        unfold maxLen at hl
        clear hcells hr
        go_wp2
        · go_ret
          exact BoolPost.mk _ _
        · go_ret
          exact BoolPost.mk _ _
        · go_roundw
          case rel => exact ⟨s + 1, z + rl, (by first | trivial | rfl), by omega, by go_num, by omega, by go_num⟩
          case measure => simp [intOf]; omega
      · go_wp2
        all_goals go_ret
        all_goals exact BoolPost.mk _ _
  · clear hr
    go_enter Try.func23, Try.ntmps23
    go_wp2
    all_goals go_ret
    all_goals exact BoolPost.mk _ _

def IntPost (w : World) (e : Ending) (w' : World) : Prop := ∃ z : Nat, e = .returned (.int .i64 (z : Nat)) ∧ w' = w ∧ z ≤ 8388608
theorem IntPost.mk (w : World) (z : Nat) (h : z ≤ 8388608) : IntPost w (.returned (.int .i64 (z : Nat))) w := ⟨z, rfl, rfl, h⟩

set_option maxRecDepth 100000 in
set_option maxHeartbeats 1600000 in
theorem gridBytes (an : Option Addr) (n cn : Nat) (ac : Option Addr) (S cc : Nat) (rows : Nat → Option Addr × Nat × Nat) (f : Nat → Nat → Int) (af : Option Addr) (m cf : Nat) (w : World) (hn : n ≤ 4096) (hS : S ≤ 65536) (hm : m ≤ 4096) (hr : Rg w ac S rows f) :
    Calls Try.prog 16 #[.slice an n cn, .slice ac S cc, .slice af m cf, .slice none 0 0] w fun e w' => IntPost w e w' := by
  go_enter Try.func16, Try.ntmps16
  go_wp2_with fail
  go_loopw [9, 10] (fun t i wr => ∃ s z : Nat, wr = w ∧ s ≤ S ∧ i = .int .i64 s ∧ z ≤ 1048576 ∧ t = .int .i64 z) (fun _ i _ => S - (intOf i).toNat)
  case atStart => exact ⟨0, 8 * n + 4 * m + 8 * S, rfl, Nat.zero_le _, rfl, by omega, by go_num⟩
  case round =>
    obtain ⟨s, z, rfl, hs, rfl, hz, rfl⟩ := hrel
    by_cases hlt : s < S
    · obtain ⟨b, o, rfl, hb, hcells⟩ := hr.2 (by omega)
      obtain ⟨hc, _, _, hl⟩ := hcells s hlt
      generalize (rows s).1 = ra at *
      generalize (rows s).2.1 = rl at *
      generalize (rows s).2.2 = rc at *
      unfold maxLen at hl
      clear hcells hr
      go_wp2
      · go_ret
        exact IntPost.mk _ 1048577 (by omega)
      · go_ret
        exact IntPost.mk _ (z + 4 * rl) (by omega)
      · go_roundw
        case rel => exact ⟨s + 1, z + 4 * rl, (by first | trivial | rfl), by omega, by go_num, by omega, by go_num⟩
        case measure => simp [intOf]; omega
    · clear hr
      go_wp2
      go_ret
      exact IntPost.mk _ z (by omega)

/-- what gridSpanOK answers -/
def SpanPost (n len : Nat) (f : Nat → Int) (w : World) (e : Ending) (w' : World) : Prop := ∃ r : Bool, e = .returned (.bool r) ∧ w' = w ∧ (r = true → len = n ∧ ∀ i, i < n → 0 ≤ f i ∧ f i < (n : Int))
theorem SpanPost.no (n len : Nat) (f : Nat → Int) (w : World) : SpanPost n len f w (.returned (.bool false)) w := ⟨false, rfl, rfl, fun h => by cases h⟩
theorem SpanPost.yes {n len : Nat} {f : Nat → Int} {w : World} (h : len = n) (h2 : ∀ i, i < n → 0 ≤ f i ∧ f i < (n : Int)) : SpanPost n len f w (.returned (.bool true)) w := ⟨true, rfl, rfl, fun _ => ⟨h, h2⟩⟩

set_option maxRecDepth 100000 in
set_option maxHeartbeats 1600000 in
theorem spanOK (n : Nat) (a : Option Addr) (len cap : Nat) (f : Nat → Int) (w : World) (hn : n ≤ 4096) (hl : len ≤ maxLen) (hsl : Sl .i32 w a len f) (hw : W32 len f) :
    Calls Try.prog 18 #[.int .i64 n, .slice a len cap] w fun e w' => SpanPost n len f w e w' := by
  unfold maxLen at hl
  by_cases hne : len = n
  · obtain rfl : n = len := hne.symm
    clear hne
    go_enter Try.func18, Try.ntmps18
    go_wp2_with fail
    go_loopw [5] (fun i wr => ∃ k : Nat, wr = w ∧ k ≤ n ∧ i = .int .i64 k ∧ Hid (∀ j, j < k → 0 ≤ f j ∧ f j < (n : Int))) (fun i _ => n - (intOf i).toNat)
    case atStart => exact ⟨0, rfl, Nat.zero_le _, rfl, fun j h => by omega⟩
    case round =>
      obtain ⟨k, rfl, hk, rfl, HA⟩ := hrel
      by_cases hlt : k < n
      · obtain ⟨b, o, rfl, hb, hcells⟩ := hsl.2 (by omega)
        have hc := hcells k hlt
        obtain ⟨hb1, hb2⟩ := hw k hlt
        have HS : Hid (0 ≤ f k → f k < (n : Int) → ∀ j, j < k + 1 → 0 ≤ f j ∧ f j < (n : Int)) := by
          intro h1 h2 j hj
          by_cases e : j = k
          · subst e; exact ⟨h1, h2⟩
          · exact HA.out j (by omega)
        generalize f k = x at *
        clear hcells hw hsl
        by_cases hx1 : x < 0
        · go_wp2
          go_ret
          exact SpanPost.no _ _ _ _
        by_cases hx2 : (n : Int) ≤ x
        · go_wp2
          go_ret
          exact SpanPost.no _ _ _ _
        have HT : Hid (∀ j, j < k + 1 → 0 ≤ f j ∧ f j < (n : Int)) := HS.out (by omega) (by omega)
        clear HS
        go_wp2
        go_roundw
        case rel => exact ⟨k + 1, (by first | trivial | rfl), by omega, by go_num, HT⟩
        case measure => simp [intOf]; omega
      · obtain rfl : n = k := by omega
        go_wp2
        go_ret
        exact SpanPost.yes rfl HA.out
  · go_enter Try.func18, Try.ntmps18
    go_wp2
    go_ret
    exact SpanPost.no _ _ _ _

/-- what gridDomainOK answers -/
def Dom (n S m : Nat) (rows : Nat → Option Addr × Nat × Nat) (f : Nat → Nat → Int) (fr : Nat → Int) : Prop :=
  (∀ s, s < S → (rows s).2.1 = n ∧ ∀ i, i < n → 0 ≤ f s i ∧ f s i < (n : Int)) ∧ (∀ k, k < m → 0 ≤ fr k ∧ fr k < (n : Int))
def DomPost (n S m : Nat) (rows : Nat → Option Addr × Nat × Nat) (f : Nat → Nat → Int) (fr : Nat → Int) (w : World) (e : Ending) (w' : World) : Prop := ∃ r : Bool, e = .returned (.bool r) ∧ w' = w ∧ (r = true → Dom n S m rows f fr)
theorem DomPost.no (n S m : Nat) (rows : Nat → Option Addr × Nat × Nat) (f : Nat → Nat → Int) (fr : Nat → Int) (w : World) : DomPost n S m rows f fr w (.returned (.bool false)) w := ⟨false, rfl, rfl, fun h => by cases h⟩
theorem DomPost.yes {n S m : Nat} {rows : Nat → Option Addr × Nat × Nat} {f : Nat → Nat → Int} {fr : Nat → Int} {w : World} (h : Dom n S m rows f fr) : DomPost n S m rows f fr w (.returned (.bool true)) w := ⟨true, rfl, rfl, fun _ => h⟩

set_option maxRecDepth 100000 in
set_option maxHeartbeats 1600000 in
theorem domainOK (n : Nat) (ac : Option Addr) (S cc : Nat) (rows : Nat → Option Addr × Nat × Nat) (f : Nat → Nat → Int) (af : Option Addr) (m cf : Nat) (fr : Nat → Int) (w : World) (hn : n ≤ 4096) (hS : S ≤ 65536) (hm : m ≤ 4096)
    (hr : Rg w ac S rows f) (hsl : Sl .i32 w af m fr) (hw : W32 m fr) :
    Calls Try.prog 17 #[.int .i64 n, .slice ac S cc, .slice af m cf] w fun e w' => DomPost n S m rows f fr w e w' := by
  go_enter Try.func17, Try.ntmps17
  go_wp2_with fail
  go_loopw [7] (fun i wr => ∃ s : Nat, wr = w ∧ s ≤ S ∧ i = .int .i64 s ∧ Hid (∀ t, t < s → (rows t).2.1 = n ∧ ∀ i, i < n → 0 ≤ f t i ∧ f t i < (n : Int))) (fun i _ => S - (intOf i).toNat)
  case atStart => exact ⟨0, rfl, Nat.zero_le _, rfl, fun j h => by omega⟩
  case round =>
    obtain ⟨s, rfl, hs, rfl, HA⟩ := hrel
    by_cases hlt : s < S
    · obtain ⟨b, o, rfl, hb, hcells⟩ := hr.2 (by omega)
      obtain ⟨hc, hsl1, hw1, hl⟩ := hcells s hlt
      have HS : Hid ((rows s).2.1 = n → (∀ i, i < n → 0 ≤ f s i ∧ f s i < (n : Int)) → ∀ t, t < s + 1 → (rows t).2.1 = n ∧ ∀ i, i < n → 0 ≤ f t i ∧ f t i < (n : Int)) := by
        intro h1 h2 j hj
        by_cases e : j = s
        · subst e; exact ⟨h1, h2⟩
        · exact HA.out j (by omega)
      generalize (rows s).1 = ra at *
      generalize (rows s).2.1 = rl at *
      generalize (rows s).2.2 = rc at *
      clear hcells hr
      go_wp2_with fail
      refine (spanOK n ra rl rc (f s) _ hn hl hsl1 hw1).mono ?_
      rintro e w1 ⟨r, rfl, rfl, hrr⟩
      cases r
      · go_wp2
        go_ret
        exact DomPost.no _ _ _ _ _ _ _
      · have HT : Hid (∀ t, t < s + 1 → (rows t).2.1 = n ∧ ∀ i, i < n → 0 ≤ f t i ∧ f t i < (n : Int)) := HS.out (hrr rfl).1 (hrr rfl).2
        clear hrr HS
        go_wp2_with fail
        go_roundw
        case rel => exact ⟨s + 1, (by first | trivial | rfl), by omega, by go_num, HT⟩
        case measure => simp [intOf]; omega
    · obtain rfl : S = s := by omega
      clear hr
      go_wp2_with fail
      go_loopw [8] (fun i wr' => ∃ k : Nat, wr' = wr ∧ k ≤ m ∧ i = .int .i64 k ∧ Hid (∀ j, j < k → 0 ≤ fr j ∧ fr j < (n : Int))) (fun i _ => m - (intOf i).toNat)
      case atStart => exact ⟨0, rfl, Nat.zero_le _, rfl, fun j h => by omega⟩
      case round =>
        obtain ⟨k, rfl, hk, rfl, HB⟩ := hrel
        by_cases hltk : k < m
        · obtain ⟨b, o, rfl, hb, hcells⟩ := hsl.2 (by omega)
          have hc := hcells k hltk
          obtain ⟨hb1, hb2⟩ := hw k hltk
          have HS : Hid (0 ≤ fr k → fr k < (n : Int) → ∀ j, j < k + 1 → 0 ≤ fr j ∧ fr j < (n : Int)) := by
            intro h1 h2 j hj
            by_cases e : j = k
            · subst e; exact ⟨h1, h2⟩
            · exact HB.out j (by omega)
          generalize fr k = x at *
          clear hcells hw hsl
          by_cases hx1 : x < 0
          · go_wp2
            go_ret
            exact DomPost.no _ _ _ _ _ _ _
          by_cases hx2 : (n : Int) ≤ x
          · go_wp2
            go_ret
            exact DomPost.no _ _ _ _ _ _ _
          have HT : Hid (∀ j, j < k + 1 → 0 ≤ fr j ∧ fr j < (n : Int)) := HS.out (by omega) (by omega)
          clear HS
          go_wp2
          go_roundw
          case rel => exact ⟨k + 1, (by first | trivial | rfl), by omega, by go_num, HT⟩
          case measure => simp [intOf]; omega
        · obtain rfl : m = k := by omega
          go_wp2
          go_ret
          exact DomPost.yes ⟨HA.out, HB.out⟩
end Go.Proofs.Qxb6603019a.GridC
