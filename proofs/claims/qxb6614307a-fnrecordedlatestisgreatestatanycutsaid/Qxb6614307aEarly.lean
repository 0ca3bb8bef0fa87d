/-
  Seat b6614307a: the ways of FnRecordedLatestIsGreatestAtAnyCut that return early, and what the shell tells of the slice.
-/
import Derived.Test.Qxb6614307aGreat
namespace Go.Proofs.Qxb6614307a
open Go.RowKit
set_option linter.unusedVariables false

theorem view {w : World} {a : Option Addr} {n cap : Nat} {zs : List Int}
    (h : (a = none ∧ n = 0 ∧ cap = 0 ∧ zs = []) ∨
      ∃ x, a = some x ∧ n ≤ cap ∧ cap ≤ maxLen ∧ zs.length = cap ∧ (∀ i, i < zs.length → w.cell? (x.add i) = some (.int .i64 (zs.getD i 0))) ∧ ∀ m ∈ zs, (Lit.int .i64 m).wf = true) :
    Row w a n (fun i => zs.getD i 0) := by
  rcases h with ⟨rfl, rfl, rfl, rfl⟩ | ⟨x, rfl, h1, h2, h3, h4, h5⟩
  · exact fun i hi => absurd hi (Nat.not_lt_zero _)
  · intro i hi
    obtain ⟨b, off, spot⟩ := x
    have hspot : spot = none := by
      have h0 := h4 0 (by omega)
      simpa [Addr.add] using World.cell?_spot h0
    subst hspot
    have hi' := h4 i (by omega)
    rw [Addr.add_lit] at hi'
    exact ⟨b, off, rfl, block_lt_of_cell hi', hi'⟩

set_option maxHeartbeats 1000000 in
theorem great_early (w : World) (s : ByteArray) (a : Option Addr) (n cap : Nat) (cut : Int)
    (h : (1048576 : Int) < s.size ∨ (1048576 : Int) < n ∨ ((s.size : Int) ≤ 1048576 ∧ (n : Int) ≤ 1048576 ∧ (1048576 : Int) < s.size + n) ∨ ((s.size : Int) + n ≤ 1048576 ∧ (131072 : Int) < n) ∨ ((s.size : Int) + n ≤ 1048576 ∧ (n : Int) ≤ 131072 ∧ (1048576 : Int) < s.size + 8 * n) ∨ ((s.size : Int) ≤ 1048576 ∧ n = 0)) :
    Calls Try.prog 5 #[.string s, .slice a n cap, .int .i64 cut] w fun e w' => e = .returned (.bool true) ∧ Below w.heap.size w w' := by
  by_cases h0 : (1048576 : Int) < s.size
  · clear h
    go_enter Try.func5, Try.ntmps5
    go_wp2
    go_ret
    exact ⟨rfl, Below.refl _ _⟩
  have g0 : (s.size : Int) ≤ 1048576 := by omega
  by_cases h1 : (1048576 : Int) < n
  · clear h h0
    go_enter Try.func5, Try.ntmps5
    go_wp2
    go_ret
    exact ⟨rfl, Below.refl _ _⟩
  have g1 : (n : Int) ≤ 1048576 := by omega
  by_cases h2 : (1048576 : Int) < s.size + n
  · clear h h0 h1
    go_enter Try.func5, Try.ntmps5
    go_wp2
    go_ret
    exact ⟨rfl, Below.refl _ _⟩
  have g2 : (s.size : Int) + n ≤ 1048576 := by omega
  by_cases h3 : (131072 : Int) < n
  · clear h h0 h1 h2
    go_enter Try.func5, Try.ntmps5
    go_wp2
    go_ret
    exact ⟨rfl, Below.refl _ _⟩
  have g3 : (n : Int) ≤ 131072 := by omega
  by_cases h4 : (1048576 : Int) < s.size + 8 * n
  · clear h h0 h1 h2 h3
    go_enter Try.func5, Try.ntmps5
    go_wp2
    go_ret
    exact ⟨rfl, Below.refl _ _⟩
  have g4 : n = 0 := by omega
  subst g4
  clear h h0 h1 h2 h3 h4
  go_enter Try.func5, Try.ntmps5
  go_wp2
  go_ret
  exact ⟨rfl, Below.refl _ _⟩
end Go.Proofs.Qxb6614307a
