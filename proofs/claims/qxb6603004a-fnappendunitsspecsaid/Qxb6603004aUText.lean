/- The walk of unitsText. -/
import Derived.Test.Qxb6603004aGreedy
namespace Go.Proofs.Qxb6603004a.UText
open Go.RowKit Go.Proofs.Qxb6603004a.Plain Go.Proofs.Qxb6603004a.Bytes Go.Proofs.Qxb6603004a.Units

/-- append to a row of bytes that the call owns, in the words of this seat -/
theorem app_own {w : World} {ops : Array Oper} {rest : List Oper} {o : Oper} {a : Act} {Q : Exit → Act → World → Prop} (hgd : o.guard = none) (s x : Operand)
    (ho : o.op = .call { callee := .builtin .append, args := #[s, x], argTypes := #[26, 26] }) (base : Nat) (v : Value) (n : Nat) (xs : List Value) (hs : a.eval s = v) (hown : w.ownsRow base 5 1 v n xs)
    (ad : Addr) (m c : Nat) (news : List Value) (hx : a.eval x = .slice (some ad) m c) (hl : news.length = m) (hnews : ∀ j u, news[j]? = some u → w.cell? (ad.add j) = some u) (h1 : ∀ u ∈ news, u.oneCell' = true)
    (hb : n + m ≤ 1000000) (hbase : base ≤ w.heap.size)
    (h : ∀ v' w', w'.ownsRow base 5 1 v' (n + m) (xs ++ news) → Below base w w' → wpList Try.prog ops Q rest (a.put o.dst v') w') : wpList Try.prog ops Q (o :: rest) a w := by
  obtain ⟨i0, hi, hi0, hi1, hi2⟩ := info_parts Try.info5
  refine wpList_append_own _ hgd s x 26 ho base 5 i0 (.int .u8 0) 1 1 Try.underlying26 hi hi0 hi1 hi2 rfl (by decide) v n xs hs hown ad m c news hx (by omega) hnews h1 (by unfold maxLen; omega) (by omega) hbase ?_
  intro v' w' hown' hgrow _
  exact h v' w' hown' ((Below.refl _ _).grown hgrow hbase (fun k hk => (hown.lt k hk).1))
/-- make([]byte, 0, n) -/
theorem make_own {w : World} {ops : Array Oper} {rest : List Oper} {o : Oper} {a : Act} {Q : Exit → Act → World → Prop} (hgd : o.guard = none) (c : Operand)
    (ho : o.op = .makeSlice 26 (.const (.int .i64 0)) c) (C : Int) (n : Nat) (hc : a.eval c = .int .i64 C) (hC : C = (n : Int)) (hb : n ≤ 1000000)
    (h : ∀ w', w'.ownsRow w.heap.size 5 1 (.slice (some ⟨w.heap.size, 0, none⟩) 0 n) 0 [] → Below w.heap.size w w' → wpList Try.prog ops Q rest (a.put o.dst (.slice (some ⟨w.heap.size, 0, none⟩) 0 n)) w') : wpList Try.prog ops Q (o :: rest) a w := by
  obtain ⟨i0, hi, hi0, hi1, hi2⟩ := info_parts Try.info5
  refine wpList_make_own w hgd _ c 26 ho w.heap.size 5 i0 (.int .u8 0) 1 Try.underlying26 hi hi0 hi1 .i64 .i64 C n rfl hc hC (by rw [hi2]; omega) (by unfold maxLen; omega) (Nat.le_refl _) ?_
  intro w' hown hgrow
  exact h w' hown ((Below.refl _ _).grown hgrow (Nat.le_refl _) (fun k hk => by cases hk))
/-- an owned row's value, and its cells -/
theorem owned_shape {w : World} {b n : Nat} {v : Value} {xs : List Value} (h : w.ownsRow b 5 1 v n xs) (hn : 0 < n) :
    ∃ g cap, v = .slice (some ⟨g, 0, none⟩) n cap ∧ b ≤ g ∧ g < w.heap.size ∧ n ≤ cap ∧ cap ≤ maxLen ∧ ∀ j u, xs[j]? = some u → w.cell? ⟨g, j, none⟩ = some u := by
  have hc := fun g (hg : v.ownBlock = some g) => h.cells hg
  rcases h.2 with ⟨_, h0⟩ | ⟨g, cap, cur, rfl, hb, hg, hcap, hm, _⟩
  · omega
  · refine ⟨g, cap, rfl, hb, (Array.getElem?_eq_some_iff.1 hg).1, hcap, hm, fun j u hj => ?_⟩
    have := hc g rfl j u hj
    rwa [Units.addr_add, Nat.zero_add] at this

def zeros (c : Nat) : List Value := byteCells (List.replicate c (dg 0))
theorem zeros_succ (c : Nat) : zeros (c + 1) = zeros c ++ [.int .u8 48] := by
  unfold zeros byteCells
  rw [List.replicate_succ', List.map_append]
  rfl

theorem carry {w w' : World} {ad : Addr} {xs : List Value} (h : ∀ j u, xs[j]? = some u → w.cell? (ad.add j) = some u) (hb : Below w.heap.size w w') : ∀ j u, xs[j]? = some u → w'.cell? (ad.add j) = some u := by
  intro j u hj
  have e := h j u hj
  rw [hb.cell (p := ad.add j) (block_lt_of_cell e)]
  exact e
theorem at_zero {w : World} {g : Nat} {xs : List Value} (h : ∀ j u, xs[j]? = some u → w.cell? ⟨g, j, none⟩ = some u) : ∀ j u, xs[j]? = some u → w.cell? ((⟨g, 0, none⟩ : Addr).add j) = some u := by
  intro j u hj
  rw [addr_add, Nat.zero_add]
  exact h j u hj
theorem at_split {w : World} {g m : Nat} {xs ys zs : List Value} (hz : zs = xs ++ ys) (hm : xs.length = m) (h : ∀ j u, zs[j]? = some u → w.cell? ⟨g, j, none⟩ = some u) :
    (∀ j u, xs[j]? = some u → w.cell? ((⟨g, 0, none⟩ : Addr).add j) = some u) ∧ (∀ j u, ys[j]? = some u → w.cell? ((⟨g, m, none⟩ : Addr).add j) = some u) := by
  subst hz
  constructor
  · intro j u hj
    rw [addr_add, Nat.zero_add]
    refine h j u ?_
    rw [List.getElem?_append_left (List.getElem?_eq_some_iff.1 hj).1]; exact hj
  · intro j u hj
    rw [addr_add]
    refine h (m + j) u ?_
    rw [List.getElem?_append_right (by omega), hm, Nat.add_sub_cancel_left]; exact hj
theorem byteCells_append (a b : List UInt8) : byteCells (a ++ b) = byteCells a ++ byteCells b := by simp [byteCells]
/-- the padded digits, cut at p -/
theorem pad_cells {u p dl c : Nat} (hu : u ≤ 9223372036854775807) (hdl : (whole 19 u).length = dl) (hc : c = p + 1 - dl) :
    zeros c ++ byteCells (whole 19 u) = byteCells (whole 19 (u / 10 ^ p)) ++ byteCells (decs u p) ∧ c + dl = (whole 19 (u / 10 ^ p)).length + p := by
  have e := padded (p := p) hu
  rw [hdl, ← hc] at e
  constructor
  · rw [zeros, ← byteCells_append, ← byteCells_append, e]
  · have := congrArg List.length e
    rw [List.length_append, List.length_append, List.length_replicate, decs_len, hdl] at this
    exact this

theorem fin0 {w : World} {B B' n m : Nat} {v : Value} {xs : List Value} {u p : Nat} (h : w.ownsRow B' 5 1 v n xs) (hB : B ≤ B') (hx : xs = byteCells (whole 19 (u / 10 ^ p)) ++ byteCells (decs u p)) (hn : n = m + p) (hm : (whole 19 (u / 10 ^ p)).length = m) (hp : p = 0) :
    w.ownsRow B 5 1 v (text u p).length (byteCells (text u p)) := by
  have e1 : (text u p).length = n := by
    rw [hn, text, List.length_append, List.length_append, decs_len, hm, hp]; simp [point]
  have e2 : byteCells (text u p) = xs := by
    rw [hx, text, byteCells_append, byteCells_append, hp]; simp [point, byteCells]
  rw [e1, e2]
  exact ownsRow_base h hB
theorem fin1 {w : World} {B B' n m : Nat} {v : Value} {xs : List Value} {u p : Nat} (h : w.ownsRow B' 5 1 v n xs) (hB : B ≤ B') (hx : xs = byteCells (whole 19 (u / 10 ^ p)) ++ [.int .u8 46] ++ byteCells (decs u p)) (hn : n = m + 1 + p) (hm : (whole 19 (u / 10 ^ p)).length = m) (hp : ¬ p = 0) :
    w.ownsRow B 5 1 v (text u p).length (byteCells (text u p)) := by
  have e1 : (text u p).length = n := by
    rw [hn, text, List.length_append, List.length_append, decs_len, hm]; simp [point, hp]; omega
  have e2 : byteCells (text u p) = xs := by
    rw [hx, text, byteCells_append, byteCells_append]; simp [point, hp, byteCells]
  rw [e1, e2]
  exact ownsRow_base h hB

set_option maxHeartbeats 1600000 in
theorem utext (u p : Nat) (w : World) (hu : u ≤ 9223372036854775807) (hp : p ≤ 38) :
    Calls Try.prog 14 #[.int .i64 u, .int .u8 p] w fun e w' => ∃ v, e = .returned v ∧ w'.ownsRow w.heap.size 5 1 v (text u p).length (byteCells (text u p)) ∧ Below w.heap.size w w' := by
  have hD1 : 0 < (whole 19 u).length := whole_pos 18 u
  have hD2 : (whole 19 u).length ≤ 19 := whole_len 19 u 19 (lt_pow hu _ (by omega)) (by omega)
  go_enter Try.func14, Try.ntmps14
  go_wp2_with fail
  refine (Greedy.greedy u _ hu).mono ?_
  rintro e w1 ⟨v1, rfl, hown1, hbel1⟩
  obtain ⟨g1, cap1, rfl, hg1, hg1', hcap1, _, hc1⟩ := owned_shape hown1 hD1
  generalize hdl : (whole 19 u).length = dl at *
  have HDL : Hid ((whole 19 u).length = dl) := hdl
  clear hdl
  go_wp2_with (at_make; refine make_own rfl (.tmp 19) rfl _ (p + 1 + dl) rfl (by omega) (by omega) ?_; intro w2 hown2 hbel2)
  go_loopw [7, 8] (fun t k wr => ∃ c : Nat, c ≤ p + 1 - dl ∧ k = .int .i64 ((dl : Int) + c) ∧ wr.ownsRow w1.heap.size 5 1 t c (zeros c) ∧ Below w1.heap.size w1 wr) (fun _ k _ => p + 1 - (intOf k).toNat)
  case atStart => exact ⟨0, Nat.zero_le _, by go_num, hown2, hbel2⟩
  case round =>
    clear hown2 hbel2
    obtain ⟨c, hc, rfl, hown, hbel⟩ := hrel
    by_cases hlt : dl + c < p + 1
    · go_wp2_with (at_builtin; refine app_own rfl (.tmp 28) (.tmp 29) rfl w1.heap.size _ _ _ rfl (hown.alloc _) ⟨wr.heap.size, 0, none⟩ 1 1 [.int .u8 48] rfl rfl (cell_one_new _ _ _) (by intro q hq; simp at hq; subst hq; rfl) (by omega) (by have := hbel.size; simp; omega) ?_; intro v' w2 hown2 hbel2)
      have hb3 := (hbel.alloc hbel.size (.cells #[.int .u8 48] 5)).trans hbel2
      have hown3 : w2.ownsRow w1.heap.size 5 1 v' (c + 1) (zeros (c + 1)) := by rw [zeros_succ]; exact hown2
      clear hown2 hbel2 hown hbel
      go_wp2
      go_roundw
      case rel => exact ⟨c + 1, by omega, by go_num, hown3, hb3⟩
      case measure => simp [intOf]; omega
    · obtain ⟨hpc, hpl⟩ := pad_cells hu HDL.out (show c = p + 1 - dl by omega)
      have HPC : Hid (zeros c ++ byteCells (whole 19 u) = byteCells (whole 19 (u / 10 ^ p)) ++ byteCells (decs u p)) := hpc
      have hm1 : 0 < (whole 19 (u / 10 ^ p)).length := whole_pos 18 _
      have hm2 : (whole 19 (u / 10 ^ p)).length ≤ 19 := whole_len 19 _ 19 (lt_pow (Nat.le_trans (Nat.div_le_self _ _) hu) _ (by omega)) (by omega)
      have hnews := carry (at_zero hc1) hbel
      generalize hm : (whole 19 (u / 10 ^ p)).length = m at *
      have HM : Hid ((whole 19 (u / 10 ^ p)).length = m) := hm
      have HPL : Hid (c + dl = m + p) := hpl
      clear hpc hpl hm
      by_cases hp0 : p = 0
      · have hp0' : ((p : Int) == 0) = true := by simp; omega
        have HP0 : Hid (p = 0) := hp0
        clear hp0
        go_wp2_with (at_builtin; refine app_own rfl (.tmp 31) (.tmp 32) rfl w1.heap.size _ _ _ rfl hown ⟨g1, 0, none⟩ dl cap1 (byteCells (whole 19 u)) rfl (by rw [byteCells_len]; exact HDL.out) hnews (byteCells_one _) (by omega) hbel.size ?_; intro v' w2 hown2 hbel2)
        go_ret
        exact ⟨v', rfl, fin0 hown2 hbel1.size HPC.out HPL.out HM.out HP0.out, hbel1.trans (((hbel.trans hbel2)).mono hbel1.size)⟩
      · have hp0' : ((p : Int) == 0) = false := by simp; omega
        have hlA : (byteCells (whole 19 (u / 10 ^ p))).length = m := by rw [byteCells_len]; exact HM.out
        have hlB : (byteCells (decs u p)).length = p := by rw [byteCells_len, decs_len]
        go_wp2_with (first
          | (at_builtin; refine app_own rfl (.tmp 31) (.tmp 32) rfl w1.heap.size _ _ _ rfl hown ⟨g1, 0, none⟩ dl cap1 (byteCells (whole 19 u)) rfl (by rw [byteCells_len]; exact HDL.out) hnews (byteCells_one _) (by omega) hbel.size ?_; intro v' w2 hown2 hbel2; rw [HPC.out, HPL.out] at hown2; obtain ⟨g2, cap2, rfl, hg2, hg2', hcap2, _, hc2⟩ := owned_shape hown2 (by omega); obtain ⟨hcA, hcB⟩ := at_split rfl hlA hc2; clear hc2)
          | (at_make; refine make_own rfl (.tmp 44) rfl _ (m + p + 1) rfl (by omega) (by omega) ?_; intro w3 hown3 hbel3)
          | (at_builtin; refine app_own rfl (.tmp 46) (.tmp 49) rfl w2.heap.size _ _ _ rfl hown3 ⟨g2, 0, none⟩ m cap2 (byteCells (whole 19 (u / 10 ^ p))) rfl hlA (carry hcA hbel3) (byteCells_one _) (by omega) hbel3.size ?_; intro v4 w4 hown4 hbel4)
          | (at_builtin; refine app_own rfl (.tmp 51) (.tmp 52) rfl w2.heap.size _ _ _ rfl (hown4.alloc _) ⟨w4.heap.size, 0, none⟩ 1 1 [.int .u8 46] rfl rfl (cell_one_new _ _ _) (by intro q hq; simp at hq; subst hq; rfl) (by omega) (by have := (hbel3.trans hbel4).size; simp; omega) ?_; intro v5 w5 hown5 hbel5)
          | (at_builtin; refine app_own rfl (.tmp 54) (.tmp 57) rfl w2.heap.size _ _ _ rfl hown5 ⟨g2, m, none⟩ p (cap2 - m) (byteCells (decs u p)) rfl hlB (carry hcB (((hbel3.trans hbel4).alloc (hbel3.trans hbel4).size _).trans hbel5)) (byteCells_one _) (by omega) (((hbel3.trans hbel4).alloc (hbel3.trans hbel4).size _).trans hbel5).size ?_; intro v6 w6 hown6 hbel6))
        have hB5 := ((((hbel3.trans hbel4).alloc (hbel3.trans hbel4).size _).trans hbel5).trans hbel6)
        have hT12 := hbel.trans hbel2
        go_ret
        exact ⟨v6, rfl, fin1 hown6 (Nat.le_trans hbel1.size hT12.size) (by simp) (by omega) HM.out hp0, hbel1.trans ((hT12.trans (hB5.mono hT12.size)).mono hbel1.size)⟩

end Go.Proofs.Qxb6603004a.UText
