/- The walk of equalBytes at two equal rows. -/
import Derived.Test.Qxb6603004aUText
import Derived.Deep.QuietTactic
import Derived.BigQuiet
namespace Go.Proofs.Qxb6603004a.Equal
open Go.RowKit Go.Proofs.Qxb6603004a.Plain Go.Proofs.Qxb6603004a.Bytes Go.Proofs.Qxb6603004a.Units

set_option maxHeartbeats 800000 in
theorem equal (g1 g2 n c1 c2 : Nat) (xs : List Value) (w : World) (hn : n ≤ 1000000) (hx : ∀ j, j < n → ∃ z, xs[j]? = some (.int .u8 z))
    (h1 : ∀ j u, xs[j]? = some u → w.cell? ⟨g1, j, none⟩ = some u) (h2 : ∀ j u, xs[j]? = some u → w.cell? ⟨g2, j, none⟩ = some u) :
    Calls Try.prog 16 #[.slice (some ⟨g1, 0, none⟩) n c1, .slice (some ⟨g2, 0, none⟩) n c2] w fun e w' => e = .returned (.bool true) ∧ ∃ nq, w' = w.drewN nq := by
  go_enter Try.func16, Try.ntmps16
  go_wp2_with fail
  go_loopw [5] (fun i wr => ∃ k nq : Nat, k ≤ n ∧ i = .int .i64 k ∧ wr = w.drewN nq) (fun i _ => n - (intOf i).toNat)
  case atStart => exact ⟨0, 0, Nat.zero_le _, rfl, rfl⟩
  case round =>
    obtain ⟨k, nq, hk, rfl, rfl⟩ := hrel
    by_cases hlt : k < n
    · obtain ⟨z, hz⟩ := hx k hlt
      have e1 := h1 k _ hz
      have e2 := h2 k _ hz
      clear hx h1 h2 hz
      go_wp2_with fail
      go_quiet (fail)
      go_wp2
      go_roundw
      case rel => exact ⟨k + 1, _, by omega, by go_num, rfl⟩
      case measure => simp [intOf]; omega
    · clear hx h1 h2
      go_wp2
      go_ret
      exact ⟨rfl, _, rfl⟩

end Go.Proofs.Qxb6603004a.Equal
