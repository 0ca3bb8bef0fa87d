/-
  Seat b6614307a: ZZrecordView and zzRecordViewIs.
-/
import Derived.Test.Qxb6614307aRows
import Derived.WalkKit
import Derived.ProofKit
import Derived.Below
import Derived.WalkSpells
namespace Go.Proofs.Qxb6614307a
open Go.RowKit
set_option linter.unusedVariables false

/-- A record's cells: a declared tag at t, a deleted user at u, nothing else. -/
abbrev recCells (t u : Option Addr) : Array Value :=
  #[.pointer t, .pointer none, .pointer none, .pointer u, .pointer none, .pointer none, .pointer none, .pointer none, .pointer none, .pointer none, .pointer none, .pointer none, .pointer none, .pointer none]

theorem neq_zero (w : World) : (binOp .neq 48 (.agg (recCells none none)) (.agg (recCells none none))).run Try.prog w = .ok (.bool false) w := by kernel_rfl
theorem neq_tag (a : Addr) (u : Option Addr) (w : World) : (binOp .neq 48 (.agg (recCells (some a) u)) (.agg (recCells none none))).run Try.prog w = .ok (.bool true) w := by kernel_rfl
theorem neq_user (a : Addr) (w : World) : (binOp .neq 48 (.agg (recCells none (some a))) (.agg (recCells none none))).run Try.prog w = .ok (.bool true) w := by kernel_rfl


set_option maxHeartbeats 400000 in
theorem view_none (w : World) : Calls Try.prog 9 #[.agg (recCells none none)] w fun e w' => e = .returned (.tuple #[.bool false, .string ⟨#[]⟩, .bool false, .string ⟨#[]⟩, .bool false]) ∧ Below w.heap.size w w' := by
  have hneq := neq_zero
  go_enter Try.func9, Try.ntmps9
  go_wp2
  exact bodyPost_ret (v := .tuple #[.bool false, .string ⟨#[]⟩, .bool false, .string ⟨#[]⟩, .bool false]) (by simp [results, Try.results9, go_sem]) rfl ⟨rfl, (Below.refl _ _).alloc (Nat.le_refl _) _⟩

set_option maxHeartbeats 400000 in
theorem view_tag (w : World) (T : Nat) (s : ByteArray) (h : w.cell? ⟨T, 0, none⟩ = some (.string s)) : Calls Try.prog 9 #[.agg (recCells (some ⟨T, 0, none⟩) none)] w fun e w' => e = .returned (.tuple #[.bool true, .string s, .bool false, .string ⟨#[]⟩, .bool false]) ∧ Below w.heap.size w w' := by
  have hneq := neq_zero
  have hT := block_lt_of_cell h
  go_enter Try.func9, Try.ntmps9
  go_wp2
  exact bodyPost_ret (v := .tuple #[.bool true, .string s, .bool false, .string ⟨#[]⟩, .bool false]) (by simp [results, Try.results9, go_sem]) rfl ⟨rfl, (Below.refl _ _).alloc (Nat.le_refl _) _⟩

set_option maxHeartbeats 400000 in
theorem view_user (w : World) (U : Nat) (d : ByteArray) (h : w.cell? ⟨U, 0, none⟩ = some (.string d)) : Calls Try.prog 9 #[.agg (recCells none (some ⟨U, 0, none⟩))] w fun e w' => e = .returned (.tuple #[.bool false, .string ⟨#[]⟩, .bool true, .string d, .bool false]) ∧ Below w.heap.size w w' := by
  have hneq := neq_zero
  have hT := block_lt_of_cell h
  go_enter Try.func9, Try.ntmps9
  go_wp2
  exact bodyPost_ret (v := .tuple #[.bool false, .string ⟨#[]⟩, .bool true, .string d, .bool false]) (by simp [results, Try.results9, go_sem]) rfl ⟨rfl, (Below.refl _ _).alloc (Nat.le_refl _) _⟩

set_option maxHeartbeats 400000 in
theorem view_both (w : World) (T U : Nat) (s d : ByteArray) (h : w.cell? ⟨T, 0, none⟩ = some (.string s)) (k : w.cell? ⟨U, 0, none⟩ = some (.string d)) : Calls Try.prog 9 #[.agg (recCells (some ⟨T, 0, none⟩) (some ⟨U, 0, none⟩))] w fun e w' => e = .returned (.tuple #[.bool true, .string s, .bool true, .string d, .bool false]) ∧ Below w.heap.size w w' := by
  have hneq := neq_zero
  have hT := block_lt_of_cell h
  have hU := block_lt_of_cell k
  go_enter Try.func9, Try.ntmps9
  go_wp2
  exact bodyPost_ret (v := .tuple #[.bool true, .string s, .bool true, .string d, .bool false]) (by simp [results, Try.results9, go_sem]) rfl ⟨rfl, (Below.refl _ _).alloc (Nat.le_refl _) _⟩

theorem is_any (w : World) (h u : Bool) (t d : ByteArray) : Calls Try.prog 10 #[.bool h, .string t, .bool u, .string d, .bool false, .bool h, .string t, .bool u, .string d] w fun e w' => e = .returned (.bool true) ∧ w = w' := by
  cases h <;> cases u
  all_goals
    go_enter Try.func10, Try.ntmps10
    go_wp2
    go_ret
    exact ⟨rfl, rfl⟩
end Go.Proofs.Qxb6614307a
