/-
  Seat b6614215a: what the shell tells of a slice that came in, as the walks take it.
-/
import Derived.Test.Qxb6614215aJoin
import Derived.OpenShut
namespace Go.Proofs.Qxb6614215a
open Go.RowKit
set_option linter.unusedVariables false

theorem view {w : World} {a : Option Addr} {n cap : Nat} {zs : List Int}
    (h : (a = none ∧ n = 0 ∧ cap = 0 ∧ zs = []) ∨
      ∃ x, a = some x ∧ n ≤ cap ∧ cap ≤ maxLen ∧ zs.length = cap ∧ (∀ i, i < zs.length → w.cell? (x.add i) = some (.int .i64 (zs.getD i 0))) ∧ ∀ m ∈ zs, (Lit.int .i64 m).wf = true) :
    n ≤ cap ∧ cap ≤ maxLen ∧ Row w a n (fun i => zs.getD i 0) ∧ ∀ i, -9223372036854775808 ≤ zs.getD i 0 ∧ zs.getD i 0 ≤ 9223372036854775807 := by
  rcases h with ⟨rfl, rfl, rfl, rfl⟩ | ⟨x, rfl, h1, h2, h3, h4, h5⟩
  · exact ⟨Nat.le_refl _, Nat.zero_le _, fun i hi => absurd hi (Nat.not_lt_zero _), fun i => by simp⟩
  · refine ⟨h1, h2, fun i hi => ?_, fun i => ?_⟩
    · obtain ⟨b, off, spot⟩ := x
      have hspot : spot = none := by
        have h0 := h4 0 (by omega)
        simpa [Addr.add] using World.cell?_spot h0
      subst hspot
      have hi' := h4 i (by omega)
      rw [Addr.add_lit] at hi'
      exact ⟨b, off, rfl, block_lt_of_cell hi', hi'⟩
    · have := range_i64 h5 i
      simpa using this
end Go.Proofs.Qxb6614215a
