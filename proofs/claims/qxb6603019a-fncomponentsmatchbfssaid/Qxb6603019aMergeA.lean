/- compCopyMap whatever the map; the pairs as edges; the early ways of FnComponentsMergeOnePair. -/
import Derived.Test.Qxb6603019aClone
namespace Go.Proofs.Qxb6603019a.MergeA
open Go.RowKit Go.Maps Go.Proofs.Qxb6603019a.Lab Go.Proofs.Qxb6603019a.Root Go.Proofs.Qxb6603019a.Base Go.Proofs.Qxb6603019a.Comp Go.Proofs.Qxb6603019a.Keys Go.Proofs.Qxb6603019a.Clone

def Edge (ks : List (Int × Int)) (x y : Nat) : Prop := ((x : Int), (y : Int)) ∈ ks
theorem edge_has {D : DataW Unit} {ks : List (Int × Int)} {n len : Nat} (hl : ks.length = len) (hok : ∀ p ∈ ks, Okp n p) (hH : HasIs D ks len) :
    (∀ kl, Maps.has D kl = true → ∃ x y : Nat, kl = pk x y ∧ Edge ks x y) ∧ (∀ x y : Nat, Edge ks x y → x < n ∧ y < n ∧ Maps.has D (pk x y) = true) := by
  constructor
  · intro kl h
    obtain ⟨j, hj, _, rfl⟩ := (hH kl).1 h
    have hm : ks[j] ∈ ks := List.getElem_mem _
    obtain ⟨h1, h2, h3, h4⟩ := hok _ hm
    refine ⟨ks[j].1.toNat, ks[j].2.toNat, ?_, ?_⟩
    · rw [Int.toNat_of_nonneg h1, Int.toNat_of_nonneg h3]
    · unfold Edge
      rw [Int.toNat_of_nonneg h1, Int.toNat_of_nonneg h3]
      exact hm
  · intro x y h
    obtain ⟨h1, h2, h3, h4⟩ := hok _ h
    simp only at h1 h2 h3 h4
    refine ⟨by omega, by omega, ?_⟩
    obtain ⟨j, hj, e⟩ := List.getElem_of_mem h
    exact (hH _).2 ⟨j, hj, by omega, by rw [e]⟩
theorem mapIs_of {w : World} {b m n len : Nat} {D : DataW Unit} {ks : List (Int × Int)} (hown : w.ownsMap Try.prog 31 (plainElem Try.prog 3) b m D) (hl : ks.length = len) (hok : ∀ p ∈ ks, Okp n p) (hH : HasIs D ks len) : MapIs w (some b) n (Edge ks) :=
  .inr ⟨b, m, D, rfl, hown, (edge_has hl hok hH).1, (edge_has hl hok hH).2⟩
/-- one pair more -/
def Edge1 (ks : List (Int × Int)) (a b x y : Nat) : Prop := Edge ks x y ∨ (x = a ∧ y = b)
theorem mapIs_more {w : World} {g m n len a b : Nat} {D : DataW Unit} {d : DataW Unit} {ks : List (Int × Int)} (hD : IsMap D) (hown : w.ownsMap Try.prog 31 (plainElem Try.prog 3) g m (D.put (pk a b) d)) (hl : ks.length = len) (hok : ∀ p ∈ ks, Okp n p) (hH : HasIs D ks len) (ha : a < n) (hb : b < n) :
    MapIs w (some g) n (Edge1 ks a b) := by
  obtain ⟨h1, h2⟩ := edge_has hl hok hH
  refine .inr ⟨g, m, _, rfl, hown, fun kl h => ?_, fun x y h => ?_⟩
  · by_cases e : kl = pk a b
    · exact ⟨a, b, e, .inr ⟨rfl, rfl⟩⟩
    · rw [has_put_other e] at h
      obtain ⟨x, y, e1, e2⟩ := h1 kl h
      exact ⟨x, y, e1, .inl e2⟩
  · rcases h with h | ⟨rfl, rfl⟩
    · obtain ⟨hx, hy, hh⟩ := h2 x y h
      refine ⟨hx, hy, ?_⟩
      by_cases e : pk x y = pk a b
      · rw [e]; exact has_put_same hD (isKey _ _) d
      · rw [has_put_other e]; exact hh
    · exact ⟨ha, hb, has_put_same hD (isKey _ _) d⟩

def CopyPost (n : Nat) (ks : List (Int × Int)) (w : World) (e : Ending) (w' : World) : Prop := ∃ mo' sz', e = .returned (.map mo') ∧ MapIs w' mo' n (Edge ks) ∧ MapOk w' mo' sz' ∧ Below w.heap.size w w'
theorem copyAny (n : Nat) (mo : Option Nat) (a : Option Addr) (len cap : Nat) (ks : List (Int × Int)) (w : World) (hl : len ≤ 65536) (hm : MapOk w mo len) (hk : KeysIs w a len ks) (hok : ∀ p ∈ ks, Okp n p) :
    Calls Try.prog 11 #[.map mo, .slice a len cap] w fun e w' => CopyPost n ks w e w' := by
  cases mo with
  | some b =>
    refine (copyMap b len a len cap ks w hl hm hk).mono ?_
    rintro e w' ⟨D, rfl, hown, hH, hb⟩
    exact ⟨some w.heap.size, _, rfl, mapIs_of hown hk.1 hok hH, MapOk.own hown, hb⟩
  | none =>
    have h0 := hm.1 rfl
    have hks : ks = [] := List.eq_nil_of_length_eq_zero (by have := hk.1; omega)
    have hnil := fun W => run_eql_map_nil (P := Try.prog) W 22 31 3 none Try.underlying22
    clear hm hk
    go_enter Try.func11, Try.ntmps11
    go_wp2
    go_ret
    exact ⟨none, 0, rfl, .inl ⟨rfl, fun x y h => by rw [hks] at h; simp [Edge] at h⟩, MapOk.nil _, Below.refl _ _⟩

end Go.Proofs.Qxb6603019a.MergeA
