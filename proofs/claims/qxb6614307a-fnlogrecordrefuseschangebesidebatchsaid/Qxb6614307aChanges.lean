/-
  Seat b6614307a: ZZlogRecordChanges.
-/
import Derived.Test.Qxb6614307aView9
namespace Go.Proofs.Qxb6614307a
open Go.RowKit
set_option linter.unusedVariables false

/-- A log record's cells. -/
def logCells (rev : Int) (t u : Option Addr) (bt : Value) : Array Value :=
  #[.int .i64 rev, .pointer t, .pointer none, .pointer none, .pointer u, .pointer none, .pointer none, .pointer none, .pointer none, .pointer none, .pointer none, .pointer none, .pointer none, .pointer none, .pointer none, bt]

/-- A log record lies at block L. -/
def Log (w : World) (L : Nat) (rev : Int) (t u : Option Addr) (bt : Value) : Prop := ∀ i v, (logCells rev t u bt)[i]? = some v → w.cell? ⟨L, i, none⟩ = some v

theorem Log.later {w w' : World} {L : Nat} {rev : Int} {t u : Option Addr} {bt : Value} (h : Log w L rev t u bt) (hb : Below w.heap.size w w') : Log w' L rev t u bt := by
  intro i v hi
  have h1 := h i v hi
  have h2 := block_lt_of_cell h1
  exact (hb.cell (by exact h2)).trans h1

set_option maxHeartbeats 400000 in
theorem changes_alone (w : World) (L : Nat) (rev : Int) (t u : Option Addr) (a : Option Addr) (c : Nat) (h : Log w L rev t u (.slice a 0 c)) :
    Calls Try.prog 8 #[.pointer (some ⟨L, 0, none⟩)] w fun e w' => e = .returned (.tuple #[.slice (some ⟨w.heap.size, 0, none⟩) 1 1, .nilIface]) ∧ w.alloc (.cells (recCells t u) 48) = w' := by
  have c1 : w.cell? ⟨L, 1, none⟩ = some (.pointer t) := h 1 _ rfl
  have c2 : w.cell? ⟨L, 2, none⟩ = some (.pointer none) := h 2 _ rfl
  have c3 : w.cell? ⟨L, 3, none⟩ = some (.pointer none) := h 3 _ rfl
  have c4 : w.cell? ⟨L, 4, none⟩ = some (.pointer u) := h 4 _ rfl
  have c5 : w.cell? ⟨L, 5, none⟩ = some (.pointer none) := h 5 _ rfl
  have c6 : w.cell? ⟨L, 6, none⟩ = some (.pointer none) := h 6 _ rfl
  have c7 : w.cell? ⟨L, 7, none⟩ = some (.pointer none) := h 7 _ rfl
  have c8 : w.cell? ⟨L, 8, none⟩ = some (.pointer none) := h 8 _ rfl
  have c9 : w.cell? ⟨L, 9, none⟩ = some (.pointer none) := h 9 _ rfl
  have c10 : w.cell? ⟨L, 10, none⟩ = some (.pointer none) := h 10 _ rfl
  have c11 : w.cell? ⟨L, 11, none⟩ = some (.pointer none) := h 11 _ rfl
  have c12 : w.cell? ⟨L, 12, none⟩ = some (.pointer none) := h 12 _ rfl
  have c13 : w.cell? ⟨L, 13, none⟩ = some (.pointer none) := h 13 _ rfl
  have c14 : w.cell? ⟨L, 14, none⟩ = some (.pointer none) := h 14 _ rfl
  have c15 : w.cell? ⟨L, 15, none⟩ = some (.slice a 0 c) := h 15 _ rfl
  clear h
  go_enter Try.func8, Try.ntmps8
  go_wp2
  go_ret2
  exact ⟨rfl, rfl⟩


set_option maxHeartbeats 400000 in
theorem changes_batch (w : World) (L : Nat) (rev : Int) (a : Option Addr) (n c : Nat) (h : Log w L rev none none (.slice a (n + 1) c)) :
    Calls Try.prog 8 #[.pointer (some ⟨L, 0, none⟩)] w fun e w' => e = .returned (.tuple #[.slice a (n + 1) c, .nilIface]) ∧ w = w' := by
  have c1 : w.cell? ⟨L, 1, none⟩ = some (.pointer none) := h 1 _ rfl
  have c2 : w.cell? ⟨L, 2, none⟩ = some (.pointer none) := h 2 _ rfl
  have c3 : w.cell? ⟨L, 3, none⟩ = some (.pointer none) := h 3 _ rfl
  have c4 : w.cell? ⟨L, 4, none⟩ = some (.pointer none) := h 4 _ rfl
  have c5 : w.cell? ⟨L, 5, none⟩ = some (.pointer none) := h 5 _ rfl
  have c6 : w.cell? ⟨L, 6, none⟩ = some (.pointer none) := h 6 _ rfl
  have c7 : w.cell? ⟨L, 7, none⟩ = some (.pointer none) := h 7 _ rfl
  have c8 : w.cell? ⟨L, 8, none⟩ = some (.pointer none) := h 8 _ rfl
  have c9 : w.cell? ⟨L, 9, none⟩ = some (.pointer none) := h 9 _ rfl
  have c10 : w.cell? ⟨L, 10, none⟩ = some (.pointer none) := h 10 _ rfl
  have c11 : w.cell? ⟨L, 11, none⟩ = some (.pointer none) := h 11 _ rfl
  have c12 : w.cell? ⟨L, 12, none⟩ = some (.pointer none) := h 12 _ rfl
  have c13 : w.cell? ⟨L, 13, none⟩ = some (.pointer none) := h 13 _ rfl
  have c14 : w.cell? ⟨L, 14, none⟩ = some (.pointer none) := h 14 _ rfl
  have c15 : w.cell? ⟨L, 15, none⟩ = some (.slice a (n + 1) c) := h 15 _ rfl
  clear h
  have hneq := neq_zero
  have hn0 : ((n : Int) + 1 == 0) = false := beq_eq_false_iff_ne.2 (by omega)
  go_enter Try.func8, Try.ntmps8
  go_wp2
  go_ret2
  exact ⟨rfl, rfl⟩


set_option maxHeartbeats 400000 in
theorem changes_tag (w : World) (L : Nat) (rev : Int) (T : Addr) (u : Option Addr) (a : Option Addr) (n c : Nat) (h : Log w L rev (some T) u (.slice a (n + 1) c)) :
    Calls Try.prog 8 #[.pointer (some ⟨L, 0, none⟩)] w fun e w' => (∃ E, e = .returned (.tuple #[.slice none 0 0, .iface 77 (.pointer (some ⟨E, 0, none⟩))])) ∧ Below w.heap.size w w' := by
  have c1 : w.cell? ⟨L, 1, none⟩ = some (.pointer (some T)) := h 1 _ rfl
  have c2 : w.cell? ⟨L, 2, none⟩ = some (.pointer none) := h 2 _ rfl
  have c3 : w.cell? ⟨L, 3, none⟩ = some (.pointer none) := h 3 _ rfl
  have c4 : w.cell? ⟨L, 4, none⟩ = some (.pointer u) := h 4 _ rfl
  have c5 : w.cell? ⟨L, 5, none⟩ = some (.pointer none) := h 5 _ rfl
  have c6 : w.cell? ⟨L, 6, none⟩ = some (.pointer none) := h 6 _ rfl
  have c7 : w.cell? ⟨L, 7, none⟩ = some (.pointer none) := h 7 _ rfl
  have c8 : w.cell? ⟨L, 8, none⟩ = some (.pointer none) := h 8 _ rfl
  have c9 : w.cell? ⟨L, 9, none⟩ = some (.pointer none) := h 9 _ rfl
  have c10 : w.cell? ⟨L, 10, none⟩ = some (.pointer none) := h 10 _ rfl
  have c11 : w.cell? ⟨L, 11, none⟩ = some (.pointer none) := h 11 _ rfl
  have c12 : w.cell? ⟨L, 12, none⟩ = some (.pointer none) := h 12 _ rfl
  have c13 : w.cell? ⟨L, 13, none⟩ = some (.pointer none) := h 13 _ rfl
  have c14 : w.cell? ⟨L, 14, none⟩ = some (.pointer none) := h 14 _ rfl
  have c15 : w.cell? ⟨L, 15, none⟩ = some (.slice a (n + 1) c) := h 15 _ rfl
  clear h
  have hneq := neq_tag T u
  have hn0 : ((n : Int) + 1 == 0) = false := beq_eq_false_iff_ne.2 (by omega)
  go_enter Try.func8, Try.ntmps8
  go_wp2
  go_ret2
  exact ⟨⟨_, rfl⟩, (Below.refl _ _).alloc (Nat.le_refl _) _⟩


set_option maxHeartbeats 400000 in
theorem changes_user (w : World) (L : Nat) (rev : Int) (U : Addr) (a : Option Addr) (n c : Nat) (h : Log w L rev none (some U) (.slice a (n + 1) c)) :
    Calls Try.prog 8 #[.pointer (some ⟨L, 0, none⟩)] w fun e w' => (∃ E, e = .returned (.tuple #[.slice none 0 0, .iface 77 (.pointer (some ⟨E, 0, none⟩))])) ∧ Below w.heap.size w w' := by
  have c1 : w.cell? ⟨L, 1, none⟩ = some (.pointer none) := h 1 _ rfl
  have c2 : w.cell? ⟨L, 2, none⟩ = some (.pointer none) := h 2 _ rfl
  have c3 : w.cell? ⟨L, 3, none⟩ = some (.pointer none) := h 3 _ rfl
  have c4 : w.cell? ⟨L, 4, none⟩ = some (.pointer (some U)) := h 4 _ rfl
  have c5 : w.cell? ⟨L, 5, none⟩ = some (.pointer none) := h 5 _ rfl
  have c6 : w.cell? ⟨L, 6, none⟩ = some (.pointer none) := h 6 _ rfl
  have c7 : w.cell? ⟨L, 7, none⟩ = some (.pointer none) := h 7 _ rfl
  have c8 : w.cell? ⟨L, 8, none⟩ = some (.pointer none) := h 8 _ rfl
  have c9 : w.cell? ⟨L, 9, none⟩ = some (.pointer none) := h 9 _ rfl
  have c10 : w.cell? ⟨L, 10, none⟩ = some (.pointer none) := h 10 _ rfl
  have c11 : w.cell? ⟨L, 11, none⟩ = some (.pointer none) := h 11 _ rfl
  have c12 : w.cell? ⟨L, 12, none⟩ = some (.pointer none) := h 12 _ rfl
  have c13 : w.cell? ⟨L, 13, none⟩ = some (.pointer none) := h 13 _ rfl
  have c14 : w.cell? ⟨L, 14, none⟩ = some (.pointer none) := h 14 _ rfl
  have c15 : w.cell? ⟨L, 15, none⟩ = some (.slice a (n + 1) c) := h 15 _ rfl
  clear h
  have hneq := neq_user U
  have hn0 : ((n : Int) + 1 == 0) = false := beq_eq_false_iff_ne.2 (by omega)
  go_enter Try.func8, Try.ntmps8
  go_wp2
  go_ret2
  exact ⟨⟨_, rfl⟩, (Below.refl _ _).alloc (Nat.le_refl _) _⟩

end Go.Proofs.Qxb6614307a
