/-
  Seat b6614225a: the contracts of the global queue's functions.
-/
import Derived.Test.Qxb6614225aRows
import Derived.WalkKit
import Derived.ProofKit
import Derived.Below
import Derived.Laws.Pointers
import Derived.Laws.LoneSync
import Derived.LaidEqlPtr
namespace Go.Proofs.Qxb6614225a
open Go.RowKit
set_option linter.unusedVariables false

theorem sc_other {w : World} {A k B j : Nat} {v : Value} (h : A ≠ B ∨ k ≠ j) : (w.setCell ⟨A, k, none⟩ v).cell? ⟨B, j, none⟩ = w.cell? ⟨B, j, none⟩ :=
  World.cell?_setCell_other _ _ _ _ (by intro e; simp at e; omega)

theorem add_any (w : World) (Q : Nat) (m : Nat) (hm : m ≤ 5000) (h2 : w.cell? ⟨Q, 2, none⟩ = some (.int .i64 m)) (f2 : w.frozen? ⟨Q, 2, none⟩ = false) :
    Calls Try.prog 14 #[.pointer (some ⟨Q, 2, none⟩), .int .i64 1] w fun e w' => e = .returned (.int .i64 (m + 1)) ∧ w.setCell ⟨Q, 2, none⟩ (.int .i64 (m + 1)) = w' := by
  have hadd := run_call_add (P := Try.prog) Try.func16 (by kernel_rfl) (by kernel_rfl) (by kernel_rfl) .i64 (by kernel_rfl) (x := m) (y := 1) (s := m + 1) h2 f2 (by simp [go_sem, IntKind.wrap_i64]; omega)
  go_enter Try.func14, Try.ntmps14
  go_wp2
  go_ret
  exact ⟨rfl, rfl⟩

theorem load_any (w : World) (Q : Nat) (m : Int) (h2 : w.cell? ⟨Q, 2, none⟩ = some (.int .i64 m)) :
    Calls Try.prog 15 #[.pointer (some ⟨Q, 2, none⟩)] w fun e w' => e = .returned (.int .i64 m) ∧ w = w' := by
  have hload := run_call_load (P := Try.prog) Try.func17 (by kernel_rfl) (by kernel_rfl) (by kernel_rfl) .i64 (by kernel_rfl) h2
  go_enter Try.func15, Try.ntmps15
  go_wp2
  go_ret
  exact ⟨rfl, rfl⟩

theorem len_any (w : World) (Q : Nat) (m : Int) (h2 : w.cell? ⟨Q, 2, none⟩ = some (.int .i64 m)) :
    Calls Try.prog 8 #[.pointer (some ⟨Q, 0, none⟩)] w fun e w' => e = .returned (.int .i64 m) ∧ w = w' := by
  go_enter Try.func8, Try.ntmps8
  go_wp2_with (first | (go_at_call 15; refine (load_any _ Q m h2).mono ?_; rintro e w' ⟨rfl, rfl⟩) | go_in)
  go_ret
  exact ⟨rfl, rfl⟩

theorem head_any (w : World) (Q : Nat) (p : Option Addr) (h : w.cell? ⟨Q, 0, none⟩ = some (.pointer p)) :
    Calls Try.prog 9 #[.pointer (some ⟨Q, 0, none⟩)] w fun e w' => e = .returned (.pointer p) ∧ w = w' := by
  go_enter Try.func9, Try.ntmps9
  go_wp2
  go_ret
  exact ⟨rfl, rfl⟩

theorem tail_any (w : World) (Q : Nat) (p : Option Addr) (h : w.cell? ⟨Q, 1, none⟩ = some (.pointer p)) :
    Calls Try.prog 11 #[.pointer (some ⟨Q, 0, none⟩)] w fun e w' => e = .returned (.pointer p) ∧ w = w' := by
  go_enter Try.func11, Try.ntmps11
  go_wp2
  go_ret
  exact ⟨rfl, rfl⟩

theorem next_any (w : World) (c : Nat) (p : Option Addr) (h : w.cell? ⟨c, 2, none⟩ = some (.pointer p)) :
    Calls Try.prog 10 #[.pointer (some ⟨c, 0, none⟩)] w fun e w' => e = .returned (.pointer p) ∧ w = w' := by
  go_enter Try.func10, Try.ntmps10
  go_wp2
  go_ret
  exact ⟨rfl, rfl⟩

theorem push_first (w : World) (Q c : Nat) (h0 : w.cell? ⟨Q, 0, none⟩ = some (.pointer none)) (h1 : w.cell? ⟨Q, 1, none⟩ = some (.pointer none)) (h2 : w.cell? ⟨Q, 2, none⟩ = some (.int .i64 0))
    (f0 : w.frozen? ⟨Q, 0, none⟩ = false) (f1 : w.frozen? ⟨Q, 1, none⟩ = false) (f2 : w.frozen? ⟨Q, 2, none⟩ = false) :
    Calls Try.prog 7 #[.pointer (some ⟨Q, 0, none⟩), .pointer (some ⟨c, 0, none⟩)] w fun e w' => e = .returned (.tuple #[]) ∧
      ((w.setCell ⟨Q, 0, none⟩ (.pointer (some ⟨c, 0, none⟩))).setCell ⟨Q, 1, none⟩ (.pointer (some ⟨c, 0, none⟩))).setCell ⟨Q, 2, none⟩ (.int .i64 1) = w' := by
  go_enter Try.func7, Try.ntmps7
  go_wp2_with (first | (go_at_call 14; refine (add_any _ Q 0 (by omega) (by go_simp) (by go_simp)).mono ?_; rintro e w' ⟨rfl, rfl⟩) | go_in)
  go_end0
  go_wp2
  go_end0
  exact ⟨rfl, rfl⟩

theorem push_more (w : World) (Q c t m : Nat) (hm : m ≤ 5000) (htQ : t ≠ Q) (h1 : w.cell? ⟨Q, 1, none⟩ = some (.pointer (some ⟨t, 0, none⟩))) (h2 : w.cell? ⟨Q, 2, none⟩ = some (.int .i64 m)) (ht : w.cell? ⟨t, 2, none⟩ = some (.pointer none))
    (f1 : w.frozen? ⟨Q, 1, none⟩ = false) (f2 : w.frozen? ⟨Q, 2, none⟩ = false) (ft : w.frozen? ⟨t, 2, none⟩ = false) :
    Calls Try.prog 7 #[.pointer (some ⟨Q, 0, none⟩), .pointer (some ⟨c, 0, none⟩)] w fun e w' => e = .returned (.tuple #[]) ∧
      ((w.setCell ⟨t, 2, none⟩ (.pointer (some ⟨c, 0, none⟩))).setCell ⟨Q, 1, none⟩ (.pointer (some ⟨c, 0, none⟩))).setCell ⟨Q, 2, none⟩ (.int .i64 (m + 1)) = w' := by
  have e1 : (w.setCell ⟨t, 2, none⟩ (.pointer (some ⟨c, 0, none⟩))).cell? ⟨Q, 1, none⟩ = some (.pointer (some ⟨t, 0, none⟩)) := by
    rw [sc_other (by omega)]; exact h1
  have e2 : ((w.setCell ⟨t, 2, none⟩ (.pointer (some ⟨c, 0, none⟩))).setCell ⟨Q, 1, none⟩ (.pointer (some ⟨c, 0, none⟩))).cell? ⟨Q, 2, none⟩ = some (.int .i64 m) := by
    rw [sc_other (by omega), sc_other (by omega)]; exact h2
  go_enter Try.func7, Try.ntmps7
  go_wp2_with (first | (go_at_call 14; refine (add_any _ Q m hm e2 (by go_simp)).mono ?_; rintro e w' ⟨rfl, rfl⟩) | go_in)
  go_end0
  go_wp2
  go_end0
  exact ⟨rfl, rfl⟩
end Go.Proofs.Qxb6614225a
