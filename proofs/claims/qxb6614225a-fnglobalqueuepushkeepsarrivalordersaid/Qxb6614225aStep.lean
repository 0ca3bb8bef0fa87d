/-
  Seat b6614225a: the walk of FnGlobalQueuePushStepByStep.
-/
import Derived.Test.Qxb6614225aState
namespace Go.Proofs.Qxb6614225a
open Go.RowKit
set_option linter.unusedVariables false

theorem run_neq_ptr_same {P : Program} (w : World) {tp te : TypeId} {j : TypeInfo} (a : Addr) (hp : P.underlying tp = some (.pointer te)) (hte : P.info? te = some j) :
    (binOp .neq tp (.pointer (some a)) (.pointer (some a))).run P w = .ok (.bool false) w := by
  have h : ∀ d : Nat, (Op.equalIn (d + 1) tp (.pointer (some a)) (.pointer (some a))).run P w = .ok true w := fun d => by
    simp [Op.equalIn, run_underlying hp, sizeOf, typeInfo, hte, run_sameAddr_same]
  simp only [binOp]
  simp [Op.equal, Op.maxDepth, h 9999]

theorem info55 : ∃ j, Try.prog.info? 55 = some j := Option.isSome_iff_exists.1 (by kernel_rfl)

theorem same_neq (a : Addr) (w : World) : (binOp .neq 25 (.pointer (some a)) (.pointer (some a))).run Try.prog w = .ok (.bool false) w := by
  obtain ⟨j, hj⟩ := info55
  exact run_neq_ptr_same w a Try.underlying25 hj

theorem same_eql (a : Addr) (w : World) : (binOp .eql 25 (.pointer (some a)) (.pointer (some a))).run Try.prog w = .ok (.bool true) w := by
  obtain ⟨j, hj⟩ := info55
  exact run_eql_ptr_same w a Try.underlying25 hj

set_option maxHeartbeats 1000000 in
theorem step_core (w : World) (n : Nat) (hn : n ≤ 4096) :
    Calls Try.prog 4 #[.int .i64 n] w fun e w' => e = .returned (.bool true) ∧ Below w.heap.size w w' := by
  have t1 : decide ((n : Int) < 0) = false := decide_eq_false (by omega)
  have t2 : decide (4096 < (n : Int)) = false := decide_eq_false (by omega)
  have hneq := same_neq
  go_enter Try.func4, Try.ntmps4
  go_wp2_with (go_at_call 5; refine (newQueue_any _).mono ?_; rintro e w' ⟨rfl, rfl⟩)
  go_loopw [4, 5, 6, 7] (fun f p i _ wr => ∃ k : Nat, k ≤ n ∧ i = .int .i64 k ∧ ((k = 0 ∧ f = .pointer none ∧ p = .pointer none) ∨ ∃ j, k = j + 1 ∧ f = .pointer (some ⟨w.heap.size + 1, 0, none⟩) ∧ p = .pointer (some ⟨w.heap.size + 1 + j, 0, none⟩)) ∧
      QState wr w.heap.size (w.heap.size + 1) k ∧ wr.heap.size = w.heap.size + 1 + k ∧ Below w.heap.size w wr) (fun _ _ i _ _ => n - (intOf i).toNat)
  case atStart => exact ⟨0, Nat.zero_le _, rfl, .inl ⟨rfl, rfl, rfl⟩, qstate_new w _ rfl, by simp, (Below.refl _ _).alloc (Nat.le_refl _) _⟩
  case round =>
    obtain ⟨k, hk, rfl, hfp, hq, hsz, hB⟩ := hrel
    by_cases hlt : k < n
    · rcases hfp with ⟨rfl, rfl, rfl⟩ | ⟨j, rfl, rfl, rfl⟩
      · go_wp2_with (go_at_call 6; refine (newCo_any _).mono ?_; rintro e w' ⟨rfl, rfl⟩)
        refine (push_at _ w.heap.size (w.heap.size + 1) 0 _ rfl (hq.alloc _) (fresh_new wr _ (by omega) _ _ rfl) (by omega)).mono ?_
        rintro e w2 ⟨rfl, hq2, hkept⟩
        have hs2 : w2.heap.size = w.heap.size + 1 + 1 := by rw [hkept.size]; simp; omega
        have hB2 : Below w.heap.size w w2 := (hB.alloc (by omega) _).trans (hkept.below _ (by omega) (by omega))
        have c0 : w2.cell? ⟨w.heap.size, 0, none⟩ = some (.pointer (some ⟨w.heap.size + 1, 0, none⟩)) := hq2.head
        have c1 : w2.cell? ⟨w.heap.size, 1, none⟩ = some (.pointer (some ⟨w.heap.size + 1, 0, none⟩)) := hq2.tail
        have c2 : w2.cell? ⟨w.heap.size, 2, none⟩ = some (.int .i64 1) := hq2.count
        have cn : w2.cell? ⟨w.heap.size + 1, 2, none⟩ = some (.pointer none) := hq2.next 0 (by omega)
        clear hkept hq hsz hB
        go_wp2_with (first | (go_at_call 8; refine (len_any _ _ _ c2).mono ?_; rintro e w' ⟨rfl, rfl⟩) | (go_at_call 9; refine (head_any _ _ _ c0).mono ?_; rintro e w' ⟨rfl, rfl⟩) | (go_at_call 11; refine (tail_any _ _ _ c1).mono ?_; rintro e w' ⟨rfl, rfl⟩) | (go_at_call 10; refine (next_any _ _ _ cn).mono ?_; rintro e w' ⟨rfl, rfl⟩))
        go_roundw
        case rel => exact ⟨1, by omega, rfl, .inr ⟨0, rfl, rfl, rfl⟩, hq2, hs2, hB2⟩
        case measure => simp [intOf]; omega
      · go_wp2_with (go_at_call 6; refine (newCo_any _).mono ?_; rintro e w' ⟨rfl, rfl⟩)
        refine (push_at _ w.heap.size (w.heap.size + 1) (j + 1) _ rfl (hq.alloc _) (fresh_new wr _ (by omega) _ _ rfl) (by omega)).mono ?_
        rintro e w2 ⟨rfl, hq2, hkept⟩
        have hs2 : w2.heap.size = w.heap.size + 1 + (j + 1 + 1) := by rw [hkept.size]; simp; omega
        have hB2 : Below w.heap.size w w2 := (hB.alloc (by omega) _).trans (hkept.below _ (by omega) (by omega))
        have c0 : w2.cell? ⟨w.heap.size, 0, none⟩ = some (.pointer (some ⟨w.heap.size + 1, 0, none⟩)) := hq2.head
        have c1 : w2.cell? ⟨w.heap.size, 1, none⟩ = some (.pointer (some ⟨w.heap.size + 1 + (j + 1), 0, none⟩)) := hq2.tail
        have c2 : w2.cell? ⟨w.heap.size, 2, none⟩ = some (.int .i64 ((j : Int) + 1 + 1)) := by rw [hq2.count]; simp
        have cn : w2.cell? ⟨w.heap.size + 1 + (j + 1), 2, none⟩ = some (.pointer none) := by rw [hq2.next (j + 1) (by omega), if_pos rfl]
        have cp : w2.cell? ⟨w.heap.size + 1 + j, 2, none⟩ = some (.pointer (some ⟨w.heap.size + 1 + (j + 1), 0, none⟩)) := by rw [hq2.next j (by omega), if_neg (by omega)]; rfl
        have hk1 : (j : Int) + 1 < (n : Int) := by omega
        have hk0 : ((j : Int) + 1 == 0) = false := beq_eq_false_iff_ne.2 (by omega)
        clear hkept hq hsz hB
        go_wp2_with (first | (go_at_call 8; refine (len_any _ _ _ c2).mono ?_; rintro e w' ⟨rfl, rfl⟩) | (go_at_call 9; refine (head_any _ _ _ c0).mono ?_; rintro e w' ⟨rfl, rfl⟩) | (go_at_call 11; refine (tail_any _ _ _ c1).mono ?_; rintro e w' ⟨rfl, rfl⟩))
        refine (next_any _ _ _ cn).mono ?_
        rintro e w' ⟨rfl, rfl⟩
        go_wp2_with fail
        refine (next_any _ _ _ cp).mono ?_
        rintro e w' ⟨rfl, rfl⟩
        go_wp2
        go_roundw
        case rel => exact ⟨j + 1 + 1, by omega, by go_num, .inr ⟨j + 1, rfl, rfl, rfl⟩, hq2, hs2, hB2⟩
        case measure => simp [intOf]; omega
    · rcases hfp with ⟨rfl, rfl, rfl⟩ | ⟨j, rfl, rfl, rfl⟩
      all_goals
        go_wp2
        go_ret
        exact ⟨rfl, hB⟩
end Go.Proofs.Qxb6614225a
