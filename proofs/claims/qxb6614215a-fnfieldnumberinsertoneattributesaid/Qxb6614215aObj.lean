/-
  Seat b6614215a: the contracts of the functions that both laws call.
-/
import Derived.Test.Qxb6614215aRows
import Derived.WalkKit
import Derived.ProofKit
import Derived.Below
namespace Go.Proofs.Qxb6614215a
open Go.RowKit
set_option linter.unusedVariables false

/-- The number of a field: its index, or its place from 1. -/
def num (z i : Int) : Int := if z = 0 then i + 1 else z

/-- An object of n entries lies at block B: entry i bears the index Z i. -/
def Obj (w : World) (B n : Nat) (Z : Nat → Int) : Prop :=
  B < w.heap.size ∧ ∃ A, A < w.heap.size ∧ w.cell? ⟨B, 0, none⟩ = some (.slice (some ⟨A, 0, none⟩) n n) ∧
    ∀ i, i < n → ∃ b, b < w.heap.size ∧ w.cell? ⟨A, i, none⟩ = some (.pointer (some ⟨b, 0, none⟩)) ∧ w.cell? ⟨b, 3, none⟩ = some (.int .i64 (Z i))

theorem Obj.later {w w' : World} {B n : Nat} {Z : Nat → Int} (h : Obj w B n Z) (hb : Below w.heap.size w w') : Obj w' B n Z := by
  obtain ⟨h1, A, h2, h3, h4⟩ := h
  have hs := hb.size
  refine ⟨by omega, A, by omega, (hb.cell (by exact h1)).trans h3, fun i hi => ?_⟩
  obtain ⟨b, k1, k2, k3⟩ := h4 i hi
  exact ⟨b, by omega, (hb.cell (by exact h2)).trans k2, (hb.cell (by exact k1)).trans k3⟩

set_option maxHeartbeats 400000 in
theorem fieldNumber_any (w : World) (B n : Nat) (Z : Nat → Int) (i : Nat) (h : Obj w B n Z) (hi : i < n) (hn : n ≤ 65537) :
    Calls Try.prog 7 #[.pointer (some ⟨B, 0, none⟩), .int .i64 (i : Int)] w fun e w' => e = .returned (.int .i64 (num (Z i) i)) ∧ w' = w := by
  obtain ⟨_, A, _, h3, h4⟩ := h
  obtain ⟨b, _, k2, k3⟩ := h4 i hi
  clear h4
  have hi1 : (i : Int) < (n : Int) := by omega
  generalize Z i = z at *
  by_cases hz : z = 0
  · have hz1 : (z != 0) = false := by simp [hz]
    have e1 : Hid (num z i = (i : Int) + 1) := by show _ = _; simp [num, hz]
    clear hz
    go_enter Try.func7, Try.ntmps7
    go_wp2
    go_ret
    exact ⟨by rw [e1.out]; rfl, rfl⟩
  · have hz1 : (z != 0) = true := by simp [hz]
    have e1 : Hid (num z i = z) := by show _ = _; simp [num, hz]
    clear hz
    go_enter Try.func7, Try.ntmps7
    go_wp2
    go_ret
    exact ⟨by rw [e1.out]; rfl, rfl⟩
end Go.Proofs.Qxb6614215a
