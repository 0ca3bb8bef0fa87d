/-
  Seat b6614225a: the walk of FnGlobalQueuePushKeepsArrivalOrder.
-/
import Derived.Test.Qxb6614225aStep
import Derived.Deep.QuietTactic
import Derived.BigQuiet
namespace Go.Proofs.Qxb6614225a
open Go.RowKit
set_option linter.unusedVariables false

theorem Try.info25 : (Try.prog.info? 25).map (fun i => (i.zero, i.size, i.bytes)) = some (some (.pointer none), 1, 8) := by kernel_rfl

/-- The row of coroutines at block S: the first k are written. -/
structure Cos (w : World) (S b n k : Nat) : Prop where
  lt : S < b
  frozen : ∀ i, i < n → w.frozen? ⟨S, i, none⟩ = false
  done : ∀ i, i < k → w.cell? ⟨S, i, none⟩ = some (.pointer (some ⟨b + i, 0, none⟩))
  todo : ∀ i, k ≤ i → i < n → w.cell? ⟨S, i, none⟩ = some (.pointer none)

theorem cos_start {w : World} {S n : Nat} (h : w.ownsRow S 25 1 (.slice (some ⟨S, 0, none⟩) n n) n (madeCells #[Value.pointer none] n).toList) : Cos w S w.heap.size n 0 := by
  rw [toList_madeCells_one] at h
  refine ⟨(h.lt S rfl).2, fun i hi => h.frozenAt i, fun i hi => by omega, fun i _ hi => ?_⟩
  rw [h.cellAt i (by omega), List.getElem?_replicate, if_pos hi]

theorem cos_step {w w' : World} {S b n k Q : Nat} (h : Cos w S b n k) (hQ : S ≠ Q) (hk : k < n) (hb : b ≤ w.heap.size) (o : Go.Obj)
    (kept : Kept ((w.setCell ⟨S, k, none⟩ (.pointer (some ⟨b + k, 0, none⟩))).alloc o) w' Q b) : Cos w' S b n (k + 1) := by
  have hl := h.lt
  have hs : (w.setCell ⟨S, k, none⟩ (.pointer (some ⟨b + k, 0, none⟩))).heap.size = w.heap.size := by simp [World.setCell]
  refine ⟨h.lt, fun i hi => ?_, fun i hi => ?_, fun i h1 h2 => ?_⟩
  · rw [kept.frozen, World.frozen?_alloc_past _ _ _ (by omega), World.frozen?_setCell]; exact h.frozen i hi
  · rw [kept.cell S i hQ hl, World.cell?_alloc_past _ _ _ (by omega)]
    by_cases hik : i = k
    · subst hik; exact World.cell?_setCell_same _ _ _ (h.todo i (Nat.le_refl _) hk)
    · rw [sc_other (by omega)]; exact h.done i (by omega)
  · rw [kept.cell S i hQ hl, World.cell?_alloc_past _ _ _ (by omega), sc_other (by omega)]
    exact h.todo i (by omega) h2

theorem qstate_grown {w w' : World} {Q b b' : Nat} (h : QState w Q b 0) (hg : w.grownBy w' none) (hb : Q < b') (hs : b' ≤ w'.heap.size) (hQ : Q < w.heap.size) : QState w' Q b' 0 := by
  have hblk := hg.block Q hQ (by simp)
  have hc : ∀ o, w'.cell? ⟨Q, o, none⟩ = w.cell? ⟨Q, o, none⟩ := fun o => World.cell?_of_block (by exact hblk)
  have hf : ∀ o, w'.frozen? ⟨Q, o, none⟩ = w.frozen? ⟨Q, o, none⟩ := fun o => World.frozen?_of_block (by exact hblk)
  exact ⟨hb, by omega, by rw [hc]; exact h.head, by rw [hc]; exact h.tail, by rw [hc]; exact h.count, by rw [hf]; exact h.f0, by rw [hf]; exact h.f1, by rw [hf]; exact h.f2, fun i hi => by omega, fun i hi => by omega⟩

theorem tail_same (w : World) (Q : Nat) (p : Option Addr) (h : w.cell? ⟨Q, 1, none⟩ = some (.pointer p)) :
    Calls Try.prog 11 #[.pointer (some ⟨Q, 0, none⟩)] w fun e w' => e = .returned (.pointer p) ∧ w' = w :=
  (tail_any w Q p h).mono fun _ _ h => ⟨h.1, h.2.symm⟩

set_option maxHeartbeats 1000000 in
theorem order_core (w : World) (n : Nat) (hn : n ≤ 4096) :
    Calls Try.prog 3 #[.int .i64 n] w fun e w' => e = .returned (.bool true) ∧ Below w.heap.size w w' := by
  have t1 : decide ((n : Int) < 0) = false := decide_eq_false (by omega)
  have t2 : decide (4096 < (n : Int)) = false := decide_eq_false (by omega)
  have hneq := same_neq
  have heql := same_eql
  obtain ⟨i0, hi, hz0, hz1, hz2⟩ := info_parts Try.info25
  have hb2 : i0.bytes * n ≤ 281474976710656 := by rw [hz2]; omega
  go_enter Try.func3, Try.ntmps3
  go_wp2_with (first | (go_at_call 5; refine (newQueue_any _).mono ?_; rintro e w' ⟨rfl, rfl⟩) | (at_make; refine wpList_make_full _ rfl _ _ 24 rfl (w.heap.size + 1) 25 i0 (.pointer none) 1 Try.underlying24 hi hz0 hz1 _ _ _ _ n rfl rfl rfl rfl hb2 (by unfold maxLen; omega) (by simp) ?_))
  intro w1 hown hgrow
  have hC : Cos w1 (w.heap.size + 1) w1.heap.size n 0 := cos_start hown
  have hs1 : w.heap.size + 1 < w1.heap.size := hC.lt
  have hQ1 : QState w1 w.heap.size w1.heap.size 0 := qstate_grown (qstate_new w _ rfl) hgrow (by omega) (Nat.le_refl _) (by simp)
  have hB1 : Below w.heap.size w w1 := ((Below.refl _ _).alloc (Nat.le_refl _) _).grown hgrow (by simp) (fun k h => by cases h)
  clear hown hgrow hi hz0 hz1 hz2 hb2
  go_wp2_with fail
  go_loopw [5] (fun i wr => ∃ k : Nat, k ≤ n ∧ i = .int .i64 k ∧ QState wr w.heap.size w1.heap.size k ∧ wr.heap.size = w1.heap.size + k ∧ Cos wr (w.heap.size + 1) w1.heap.size n k ∧ Below w.heap.size w wr) (fun i _ => n - (intOf i).toNat)
  case atStart => exact ⟨0, Nat.zero_le _, rfl, hQ1, rfl, hC, hB1⟩
  case round =>
    clear hQ1 hC hB1
    obtain ⟨k, hk, rfl, hq, hsz, hC, hB⟩ := hrel
    by_cases hlt : k < n
    · have cf := hC.frozen k hlt
      have ct := hC.todo k (Nat.le_refl _) hlt
      have hlt' : (k : Int) < (n : Int) := by omega
      have hnx : w.heap.size + 1 < w1.heap.size + k := by omega
      go_wp2_with (go_at_call 6; refine (newCo_any _).mono ?_; rintro e w' ⟨rfl, rfl⟩)
      have hss : (wr.setCell ⟨w.heap.size + 1, k, none⟩ (.pointer (some ⟨w1.heap.size + k, 0, none⟩))).heap.size = w1.heap.size + k := by rw [← hsz]; simp [World.setCell]
      refine (push_at _ w.heap.size w1.heap.size k _ rfl ((hq.store (w.heap.size + 1) k _ (by omega) (by omega)).alloc _) (fresh_new _ _ hss.symm _ _ rfl) (by omega)).mono ?_
      rintro e w2 ⟨rfl, hq2, hkept⟩
      have hs2 : w2.heap.size = w1.heap.size + (k + 1) := by rw [hkept.size]; simp at hss ⊢; omega
      have hB2 : Below w.heap.size w w2 := ((hB.setCell (by simp) _).alloc (by omega) _).trans (hkept.below _ (by omega) (by omega))
      have hC2 : Cos w2 (w.heap.size + 1) w1.heap.size n (k + 1) := cos_step hC (by omega) hlt (by omega) _ hkept
      clear hkept hq hsz hB hC hss cf ct
      go_wp2
      go_roundw
      case rel => exact ⟨k + 1, by omega, by go_num, hq2, hs2, hC2, hB2⟩
      case measure => simp [intOf]; omega
    · obtain rfl : k = n := by omega
      have c0 := hq.head
      have c1 := hq.tail
      have c2 := hq.count
      go_wp2_with (first | (go_at_call 8; refine (len_any _ _ _ c2).mono ?_; rintro e w' ⟨rfl, rfl⟩) | (go_at_call 9; refine (head_any _ _ _ c0).mono ?_; rintro e w' ⟨rfl, rfl⟩))
      go_loop [6, 7] (fun c i => ∃ q : Nat, q ≤ k ∧ i = .int .i64 q ∧ ((q < k ∧ c = .pointer (some ⟨w1.heap.size + q, 0, none⟩)) ∨ (q = k ∧ c = .pointer none))) (fun _ i => k - (intOf i).toNat)
      case atStart =>
        refine ⟨0, Nat.zero_le _, rfl, ?_⟩
        by_cases h0 : k = 0
        · exact .inr ⟨h0.symm, by simp [ptr, h0]⟩
        · exact .inl ⟨by omega, by simp [ptr, h0]⟩
      case round =>
        obtain ⟨q, hqk, rfl, hcase⟩ := hrel
        rcases hcase with ⟨hlq, rfl⟩ | ⟨rfl, rfl⟩
        · have cd := hC.done q hlq
          have cn := hq.next q hlq
          have hlq' : (q : Int) < (k : Int) := by omega
          by_cases hl : q + 1 = k
          · rw [if_pos hl] at cn
            have Hl : Hid (q + 1 = k) := hl
            clear hl
            go_wp2_with (go_at_call 10; refine (next_any _ _ _ cn).mono ?_; rintro e w' ⟨rfl, rfl⟩)
            go_round
            case rel => exact ⟨q + 1, by omega, by go_num, .inr ⟨Hl.out, rfl⟩⟩
            case measure => simp [intOf]; omega
          · rw [if_neg hl] at cn
            go_wp2_with (go_at_call 10; refine (next_any _ _ _ cn).mono ?_; rintro e w' ⟨rfl, rfl⟩)
            go_round
            case rel => exact ⟨q + 1, by omega, by go_num, .inl ⟨by omega, rfl⟩⟩
            case measure => simp [intOf]; omega
        · by_cases h0 : q = 0
          · subst h0
            go_wp2_with (go_at_call 11; refine (tail_any _ _ _ c1).mono ?_; rintro e w' ⟨rfl, rfl⟩)
            go_ret
            exact ⟨rfl, hB⟩
          · obtain ⟨m, rfl⟩ : ∃ m, q = m + 1 := ⟨q - 1, by omega⟩
            have h0' : ((m : Int) + 1 == 0) = false := beq_eq_false_iff_ne.2 (by omega)
            have cl := hC.done m (by omega)
            have ct : wr.cell? ⟨w.heap.size, 1, none⟩ = some (.pointer (some ⟨w1.heap.size + m, 0, none⟩)) := c1
            have hm1 : (m : Int) < (m : Int) + 1 := by omega
            clear c0 c1 c2
            go_wp2_with fail
            go_quiet ((go_at_call 11; exact Calls.quiet_of_same (tail_same _ _ _ ct)))
            go_wp2
            go_ret
            exact ⟨rfl, hB.os, hB.tape, hB.output, hB.size, hB.block⟩
end Go.Proofs.Qxb6614225a
