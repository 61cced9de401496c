/- The arguments opened: a map of pairs, a slice of pairs. -/
import Derived.Test.Qxb6603019aMergeA
import Derived.ProofKit
import Derived.OpenShut
import Derived.Deep.Slices
namespace Go.Proofs.Qxb6603019a.Open
open Go.RowKit Go.Maps Go.ChangeShapes Go.WideShapes Go.ChangeAt Go.WideElems Go.Deep Go.Proofs.Qxb6603019a.Base Go.Proofs.Qxb6603019a.Keys

variable {H : Type} {enc : TypeId × Value → H}

theorem mapOk_ownH {w : World} {b m : Nat} {D : DataW H} (h : w.ownsMap Try.prog 31 (plainElem Try.prog 3) b m D) : MapOk w (some b) (Maps.size D) := by
  refine ⟨fun e => (by cases e), fun W hW => ?_⟩
  have h2 : W.ownsMap Try.prog 31 (plainElem Try.prog 3) b m D := by
    have hlt := h.lt
    obtain ⟨es, clock, h1, h2⟩ := h
    exact ⟨es, clock, (hW.block b hlt).trans h1, h2⟩
  refine ⟨fun ty => h2.len Try.underlying22 ty, fun x y hx hy => ?_⟩
  obtain ⟨c, hrun, hat, hw⟩ := h2.lookup_int law Try.underlying22 Try.underlying3 (zero3 _) (keyOf_pk hx hy)
  obtain ⟨v, ps, hrun2, hv⟩ := h2.look_ok law Try.underlying22 (zero3 _) (plainElem_int Try.underlying3 (show (Lit.int .i64 0).wf = true by decide)) (keyOf_pk hx hy)
  obtain ⟨c2, rfl, hc2, _⟩ := plainElem_int_inv Try.underlying3 hv
  simp only [Prod.mk.injEq] at hc2
  rw [hat] at hc2
  obtain rfl : c = c2 := by simpa using hc2.1
  exact ⟨c, _, hw, hrun2, hrun⟩

theorem open_pairs_map {W : World} {base : Nat} {v : Value} {d : DataW H} {ps : List MemPlace} (hval : Value.okWide Try.prog W .any base 22 v) (h : DataW.Trod enc Try.prog W 0 (fun _ => true) true 22 v d ps) :
    ∃ mo sz, v = .map mo ∧ MapOk W mo sz := by
  obtain ⟨a0, rfl⟩ := okWide_map Try.underlying22 hval
  obtain ⟨fuel, hf⟩ := h
  rcases open_map Try.underlying22 hf with ⟨hcs, hx⟩ | ⟨bm, es, clock, m, rfl, hcs, hb, _, F, hx⟩
  · simp [Value.cells] at hcs
    subst hcs
    exact ⟨none, 0, rfl, MapOk.nil W⟩
  · simp [Value.cells] at hcs
    subst hcs
    have hown := World.ownsMap_of_fit (R := plainElem Try.prog 3) hb F (fun x _ z hz => elemAt_plainElem_int Try.underlying3 hz)
    exact ⟨some bm, _, rfl, mapOk_ownH hown⟩

theorem trod_pair {W : World} {fuel : Nat} {cs : List Value} {x : DataW H × List MemPlace} (h : DataW.trod enc Try.prog W 0 (fun _ => true) true fuel 31 cs = some x) : ∃ p q, cs = [.int .i32 p, .int .i32 q] ∧ (Lit.int .i32 p).wf = true ∧ (Lit.int .i32 q).wf = true := by
  obtain ⟨xs, m, rfl, _, hlen, hxl, hall⟩ := DataW.trod_array Try.underlying31 h
  rw [cells31] at hlen
  match cs, hlen with
  | [c0, c1], _ =>
    match xs, hxl with
    | [y0, y1], _ =>
      have h0 := hall 0 (by omega)
      have h1 := hall 1 (by omega)
      rw [cells21] at h0 h1
      simp at h0 h1
      obtain ⟨p, e0, _, wp⟩ := DataW.trod_int Try.underlying21 h0
      obtain ⟨q, e1, _, wq⟩ := DataW.trod_int Try.underlying21 h1
      simp at e0 e1
      subst e0 e1
      exact ⟨p, q, rfl, wp, wq⟩

theorem open_pairs {W : World} {base : Nat} {v : Value} {d : DataW H} {ps : List MemPlace} (hval : Value.okWide Try.prog W .any base 23 v) (h : DataW.Trod enc Try.prog W 0 (fun _ => true) true 23 v d ps) :
    ∃ a len cap ks, v = .slice a len cap ∧ KeysIs W a len ks ∧ len ≤ maxLen := by
  obtain ⟨a0, len, cap, rfl⟩ := okWide_slice Try.underlying23 hval
  obtain ⟨fuel, hf⟩ := h
  rcases open_slice Try.underlying23 hf with ⟨hcs, _⟩ | ⟨x, l, c, m, n, D, Pl, hcs, _, hl, hm, hmm, _, hx⟩
  · simp [Value.cells] at hcs
    obtain ⟨rfl, rfl, rfl⟩ := hcs
    exact ⟨none, 0, 0, [], rfl, ⟨rfl, by simp, fun _ => rfl, fun h => absurd h (by omega)⟩, Nat.zero_le _⟩
  · simp [Value.cells] at hcs
    obtain ⟨rfl, rfl, rfl⟩ := hcs
    simp at hmm
    subst hmm
    by_cases h0 : len = 0
    · subst h0
      exact ⟨some x, 0, m, [], rfl, ⟨rfl, by simp, fun _ => rfl, fun h => absurd h (by omega)⟩, Nat.zero_le _⟩
    have hx0 : ∀ i, i < len → ∃ pq : Int × Int, W.cell? ((x.add (i * 2)).add 0) = some (.int .i32 pq.1) ∧ W.cell? ((x.add (i * 2)).add 1) = some (.int .i32 pq.2) ∧ (Lit.int .i32 pq.1).wf = true ∧ (Lit.int .i32 pq.2).wf = true := by
      intro i hi
      obtain ⟨cs', h1, h2⟩ := hx i (by omega)
      obtain ⟨p, q, rfl, wp, wq⟩ := trod_pair h2
      rw [cells31] at h1
      obtain ⟨_, hlen, hcell⟩ := World.cells?_some h1
      exact ⟨(p, q), hcell 0 (by omega), hcell 1 (by omega), wp, wq⟩
    obtain ⟨b, o, spot⟩ := x
    have hspot : spot = none := by
      obtain ⟨pq, hp, _⟩ := hx0 0 (by omega)
      simpa [Addr.add] using World.cell?_spot hp
    subst hspot
    have hadd : ∀ j : Nat, (⟨b, o, none⟩ : Addr).add j = ⟨b, o + j, none⟩ := fun j => by
      unfold Addr.add
      by_cases h : j = 0
      · subst h; simp
      · simp [h]
    have hadd2 : ∀ j c : Nat, ((⟨b, o, none⟩ : Addr).add j).add c = ⟨b, o + j + c, none⟩ := fun j c => by
      rw [hadd]
      unfold Addr.add
      by_cases h : c = 0
      · subst h; simp
      · simp [h]
    obtain ⟨f, hf2⟩ := choose_lt hx0
    refine ⟨some ⟨b, o, none⟩, len, m, (List.range len).map f, rfl, ⟨by simp, ?_, (fun h => by cases h), fun _ => ⟨b, o, rfl, ?_, ?_⟩⟩, by omega⟩
    · intro p hp
      obtain ⟨i, hi, rfl⟩ := List.mem_map.1 hp
      exact (hf2 i (List.mem_range.1 hi)).2.2
    · have h1 := (hf2 0 (by omega)).1
      rw [hadd2] at h1
      exact block_lt_of_cell h1
    · intro j hj
      have hj' : j < len := by simpa using hj
      obtain ⟨h1, h2, _⟩ := hf2 j hj'
      rw [hadd2] at h1 h2
      simp only [List.getElem_map, List.getElem_range]
      exact ⟨h1, h2⟩

end Go.Proofs.Qxb6603019a.Open
