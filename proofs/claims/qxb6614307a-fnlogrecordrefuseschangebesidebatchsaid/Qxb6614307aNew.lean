/-
  Seat b6614307a: ZZnewLogRecord's walks: without a batch, and with one.
-/
import Derived.Test.Qxb6614307aPut
import Derived.RegionTactic
import Derived.BigRegion
namespace Go.Proofs.Qxb6614307a
open Go.RowKit
set_option linter.unusedVariables false

theorem Try.info48 : (Try.prog.info? 48).map (fun i => (i.zero, i.size, i.bytes)) = some (some (.agg (recCells none none)), 14, 112) := by kernel_rfl

set_option maxHeartbeats 400000 in
theorem new_nil (w : World) (rev : Int) (a b : Bool) (s d : ByteArray) :
    Calls Try.prog 7 #[.int .i64 rev, .bool a, .string s, .bool b, .string d, .slice none 0 0] w fun e w' => ∃ L t u, e = .returned (.pointer (some ⟨L, 0, none⟩)) ∧ Log w' L rev t u (.slice none 0 0) ∧ Says w' a s t ∧ Says w' b d u ∧ Below w.heap.size w w' := by
  have hnil := fun w => run_neq_slice_nil_any (P := Try.prog) w 22 9 none 0 0 0 0 Try.underlying22
  cases a <;> cases b
  all_goals
    go_enter Try.func7, Try.ntmps7
    go_wp2
    go_ret
  · exact ⟨_, none, none, rfl, log_alloc rfl _, says_no, says_no, (Below.refl _ _).alloc (Nat.le_refl _) _⟩
  · exact ⟨_, none, some ⟨w.heap.size + 1, 0, none⟩, rfl, (log_alloc rfl _).alloc _, says_no, says_new (by simp) _, ((Below.refl _ _).alloc (Nat.le_refl _) _).alloc (by simp) _⟩
  · exact ⟨_, some ⟨w.heap.size + 1, 0, none⟩, none, rfl, (log_alloc rfl _).alloc _, says_new (by simp) _, says_no, ((Below.refl _ _).alloc (Nat.le_refl _) _).alloc (by simp) _⟩
  · exact ⟨_, some ⟨w.heap.size + 1, 0, none⟩, some ⟨w.heap.size + 1 + 1, 0, none⟩, rfl, ((log_alloc rfl _).alloc _).alloc _, (says_new (by simp) _).alloc _, says_new (by simp) _, (((Below.refl _ _).alloc (Nat.le_refl _) _).alloc (by simp) _).alloc (by simp; omega) _⟩

set_option maxHeartbeats 2000000 in
theorem new_batch_ff (w : World) (rev : Int) (s d : ByteArray) (bx : Addr) (n cap : Nat) (Tg : Nat → ByteArray) (hn : n ≤ 100000) (hS : Strs w (some bx) n Tg) :
    Calls Try.prog 7 #[.int .i64 rev, .bool false, .string s, .bool false, .string d, .slice (some bx) n cap] w fun e w' => ∃ L t u A, e = .returned (.pointer (some ⟨L, 0, none⟩)) ∧ Log w' L rev t u (.slice (some ⟨A, 0, none⟩) n n) ∧ Says w' false s t ∧ Says w' false d u ∧ (∀ i, i < n → RecAt w' A i (Tg i)) ∧ Below w.heap.size w w' := by
  have hnil := fun w => run_neq_slice_nil_any (P := Try.prog) w 22 9 (some bx) n cap 0 0 Try.underlying22
  obtain ⟨i0, hi, hz0, hz1, hz2⟩ := info_parts Try.info48
  have hb2 : i0.bytes * n ≤ 281474976710656 := by rw [hz2]; omega
  go_enter Try.func7, Try.ntmps7
  go_wp2_with (at_make; refine wpList_make_full _ rfl _ _ 26 rfl w.heap.size 48 i0 (.agg (recCells none none)) 14 Try.underlying26 hi hz0 hz1 _ _ _ _ n rfl rfl (by omega) (by omega) hb2 (by unfold maxLen; omega) (by simp <;> omega) ?_)
  intro w1 hown hgrow
  obtain ⟨W0, hW0⟩ : ∃ W0, W0 = w.alloc (.cells (logCells rev none none (.slice none 0 0)) 57) := ⟨_, rfl⟩
  have hlog : Log W0 w.heap.size rev none none (.slice none 0 0) := by rw [hW0]; exact log_alloc rfl _
  have hst : Says W0 false s none := by rw [hW0]; exact says_no
  have hsu : Says W0 false d none := by rw [hW0]; exact says_no
  have hsz : w.heap.size + 1 = W0.heap.size := by rw [hW0]; simp
  have hB0 : Below w.heap.size w W0 := by rw [hW0]; exact (Below.refl _ _).alloc (Nat.le_refl _) _
  have hg : W0.grownBy w1 none := by rw [hW0]; exact hgrow
  have hf0 : W0.frozen? ⟨w.heap.size, 15, none⟩ = false := by
    have hsz0 : w.heap.size < w.heap.size + 1 := by omega
    rw [hW0]; exact World.frozen?_alloc_at _ _ _ _ rfl
  have h15 : W0.cell? ⟨w.heap.size, 15, none⟩ = some (.slice none 0 0) := hlog 15 _ rfl
  have hP := bat_start Tg hsz (by omega) hown hg h15
  have hB2 : Below w.heap.size w (w1.setCell ⟨w.heap.size, 15, none⟩ (.slice (some ⟨w.heap.size + 1, 0, none⟩) n n)) := (hB0.grown hg (by omega) (fun k h => by cases h)).setCell (by simp) _
  have hblk := hg.block w.heap.size (by omega) (by simp)
  have hc15 : w1.cell? ⟨w.heap.size, 15, none⟩ = some (.slice none 0 0) := (World.cell?_of_block (by exact hblk)).trans h15
  have hf15 : w1.frozen? ⟨w.heap.size, 15, none⟩ = false := (World.frozen?_of_block (by exact hblk)).trans hf0
  have Hsz : Hid (w.heap.size + 1 = W0.heap.size) := hsz
  clear hown hgrow hi hz0 hz1 hz2 hb2 hsz hB0 hg hf0 h15 hblk hW0
  go_wp2
  go_loopw [14, 44] (fun _ c wr => ∃ k : Nat, k ≤ n ∧ c = .int .i64 k ∧ Bat W0 wr w.heap.size (w.heap.size + 1) n k Tg ∧ Below w.heap.size w wr) (fun _ c _ => n - (intOf c).toNat)
  case atStart => exact ⟨0, Nat.zero_le _, rfl, hP, hB2⟩
  case round =>
    clear hP hB2 hc15 hf15
    obtain ⟨k, hk, rfl, hP, hB⟩ := hrel
    have h1 := hP.lt
    have e15 := hP.c15
    have hN : w.heap.size < wr.heap.size := by omega
    by_cases hlt : k < n
    · obtain ⟨b, off, e1, hb, hcell⟩ := hS.later hB k hlt
      simp at e1
      subst e1
      have hlt' : (k : Int) < (n : Int) := by omega
      have HR := fun c => put14 wr (w.heap.size + 1) (k * 14) c (fun j hj => hP.todo (k * 14 + j) (by omega) (by omega))
      have HR' : Hid _ := HR
      clear HR
      have d0 := hP.todo (k * 14) (by omega) (by omega)
      have f0 := hP.frozen (k * 14) (by omega)
      have d1 := hP.todo (k * 14 + 1) (by omega) (by omega)
      have f1 := hP.frozen (k * 14 + 1) (by omega)
      have d2 := hP.todo (k * 14 + 2) (by omega) (by omega)
      have f2 := hP.frozen (k * 14 + 2) (by omega)
      have d3 := hP.todo (k * 14 + 3) (by omega) (by omega)
      have f3 := hP.frozen (k * 14 + 3) (by omega)
      have d4 := hP.todo (k * 14 + 4) (by omega) (by omega)
      have f4 := hP.frozen (k * 14 + 4) (by omega)
      have d5 := hP.todo (k * 14 + 5) (by omega) (by omega)
      have f5 := hP.frozen (k * 14 + 5) (by omega)
      have d6 := hP.todo (k * 14 + 6) (by omega) (by omega)
      have f6 := hP.frozen (k * 14 + 6) (by omega)
      have d7 := hP.todo (k * 14 + 7) (by omega) (by omega)
      have f7 := hP.frozen (k * 14 + 7) (by omega)
      have d8 := hP.todo (k * 14 + 8) (by omega) (by omega)
      have f8 := hP.frozen (k * 14 + 8) (by omega)
      have d9 := hP.todo (k * 14 + 9) (by omega) (by omega)
      have f9 := hP.frozen (k * 14 + 9) (by omega)
      have d10 := hP.todo (k * 14 + 10) (by omega) (by omega)
      have f10 := hP.frozen (k * 14 + 10) (by omega)
      have d11 := hP.todo (k * 14 + 11) (by omega) (by omega)
      have f11 := hP.frozen (k * 14 + 11) (by omega)
      have d12 := hP.todo (k * 14 + 12) (by omega) (by omega)
      have f12 := hP.frozen (k * 14 + 12) (by omega)
      have d13 := hP.todo (k * 14 + 13) (by omega) (by omega)
      have f13 := hP.frozen (k * 14 + 13) (by omega)
      go_wp2_with fail
      go_region
      go_wp2
      go_roundw
      case rel =>
        have hp := HR'.out (some ⟨wr.heap.size, 0, none⟩)
        exact ⟨k + 1, by omega, by go_num, bat_step hP hlt hp _, ((hp.below _ _ (by omega) hB).alloc (by have := hp.size; omega) _).drew⟩
      case measure => simp [intOf]; omega
    · go_wp2
      go_ret
      exact ⟨w.heap.size, _, _, w.heap.size + 1, rfl, bat_log hP hlog, bat_says hP Hsz.out hst, bat_says hP Hsz.out hsu, fun i hi => hP.done i (by omega), hB⟩

set_option maxHeartbeats 2000000 in
theorem new_batch_ft (w : World) (rev : Int) (s d : ByteArray) (bx : Addr) (n cap : Nat) (Tg : Nat → ByteArray) (hn : n ≤ 100000) (hS : Strs w (some bx) n Tg) :
    Calls Try.prog 7 #[.int .i64 rev, .bool false, .string s, .bool true, .string d, .slice (some bx) n cap] w fun e w' => ∃ L t u A, e = .returned (.pointer (some ⟨L, 0, none⟩)) ∧ Log w' L rev t u (.slice (some ⟨A, 0, none⟩) n n) ∧ Says w' false s t ∧ Says w' true d u ∧ (∀ i, i < n → RecAt w' A i (Tg i)) ∧ Below w.heap.size w w' := by
  have hnil := fun w => run_neq_slice_nil_any (P := Try.prog) w 22 9 (some bx) n cap 0 0 Try.underlying22
  obtain ⟨i0, hi, hz0, hz1, hz2⟩ := info_parts Try.info48
  have hb2 : i0.bytes * n ≤ 281474976710656 := by rw [hz2]; omega
  go_enter Try.func7, Try.ntmps7
  go_wp2_with (at_make; refine wpList_make_full _ rfl _ _ 26 rfl w.heap.size 48 i0 (.agg (recCells none none)) 14 Try.underlying26 hi hz0 hz1 _ _ _ _ n rfl rfl (by omega) (by omega) hb2 (by unfold maxLen; omega) (by simp <;> omega) ?_)
  intro w1 hown hgrow
  obtain ⟨W0, hW0⟩ : ∃ W0, W0 = (w.alloc (.cells (logCells rev none (some ⟨w.heap.size + 1, 0, none⟩) (.slice none 0 0)) 57)).alloc (.cells #[.string d] 61) := ⟨_, rfl⟩
  have hlog : Log W0 w.heap.size rev none (some ⟨w.heap.size + 1, 0, none⟩) (.slice none 0 0) := by rw [hW0]; exact (log_alloc rfl _).alloc _
  have hst : Says W0 false s none := by rw [hW0]; exact says_no
  have hsu : Says W0 true d (some ⟨w.heap.size + 1, 0, none⟩) := by rw [hW0]; exact says_new (by simp) _
  have hsz : w.heap.size + 1 + 1 = W0.heap.size := by rw [hW0]; simp
  have hB0 : Below w.heap.size w W0 := by rw [hW0]; exact ((Below.refl _ _).alloc (Nat.le_refl _) _).alloc (by simp) _
  have hg : W0.grownBy w1 none := by rw [hW0]; exact hgrow
  have hf0 : W0.frozen? ⟨w.heap.size, 15, none⟩ = false := by
    have hsz0 : w.heap.size < w.heap.size + 1 + 1 := by omega
    rw [hW0]; rw [World.frozen?_alloc_past _ _ _ (by simp)]; exact World.frozen?_alloc_at _ _ _ _ rfl
  have h15 : W0.cell? ⟨w.heap.size, 15, none⟩ = some (.slice none 0 0) := hlog 15 _ rfl
  have hP := bat_start Tg hsz (by omega) hown hg h15
  have hB2 : Below w.heap.size w (w1.setCell ⟨w.heap.size, 15, none⟩ (.slice (some ⟨w.heap.size + 1 + 1, 0, none⟩) n n)) := (hB0.grown hg (by omega) (fun k h => by cases h)).setCell (by simp) _
  have hblk := hg.block w.heap.size (by omega) (by simp)
  have hc15 : w1.cell? ⟨w.heap.size, 15, none⟩ = some (.slice none 0 0) := (World.cell?_of_block (by exact hblk)).trans h15
  have hf15 : w1.frozen? ⟨w.heap.size, 15, none⟩ = false := (World.frozen?_of_block (by exact hblk)).trans hf0
  have Hsz : Hid (w.heap.size + 1 + 1 = W0.heap.size) := hsz
  clear hown hgrow hi hz0 hz1 hz2 hb2 hsz hB0 hg hf0 h15 hblk hW0
  go_wp2
  go_loopw [14, 44] (fun _ c wr => ∃ k : Nat, k ≤ n ∧ c = .int .i64 k ∧ Bat W0 wr w.heap.size (w.heap.size + 1 + 1) n k Tg ∧ Below w.heap.size w wr) (fun _ c _ => n - (intOf c).toNat)
  case atStart => exact ⟨0, Nat.zero_le _, rfl, hP, hB2⟩
  case round =>
    clear hP hB2 hc15 hf15
    obtain ⟨k, hk, rfl, hP, hB⟩ := hrel
    have h1 := hP.lt
    have e15 := hP.c15
    have hN : w.heap.size < wr.heap.size := by omega
    by_cases hlt : k < n
    · obtain ⟨b, off, e1, hb, hcell⟩ := hS.later hB k hlt
      simp at e1
      subst e1
      have hlt' : (k : Int) < (n : Int) := by omega
      have HR := fun c => put14 wr (w.heap.size + 1 + 1) (k * 14) c (fun j hj => hP.todo (k * 14 + j) (by omega) (by omega))
      have HR' : Hid _ := HR
      clear HR
      have d0 := hP.todo (k * 14) (by omega) (by omega)
      have f0 := hP.frozen (k * 14) (by omega)
      have d1 := hP.todo (k * 14 + 1) (by omega) (by omega)
      have f1 := hP.frozen (k * 14 + 1) (by omega)
      have d2 := hP.todo (k * 14 + 2) (by omega) (by omega)
      have f2 := hP.frozen (k * 14 + 2) (by omega)
      have d3 := hP.todo (k * 14 + 3) (by omega) (by omega)
      have f3 := hP.frozen (k * 14 + 3) (by omega)
      have d4 := hP.todo (k * 14 + 4) (by omega) (by omega)
      have f4 := hP.frozen (k * 14 + 4) (by omega)
      have d5 := hP.todo (k * 14 + 5) (by omega) (by omega)
      have f5 := hP.frozen (k * 14 + 5) (by omega)
      have d6 := hP.todo (k * 14 + 6) (by omega) (by omega)
      have f6 := hP.frozen (k * 14 + 6) (by omega)
      have d7 := hP.todo (k * 14 + 7) (by omega) (by omega)
      have f7 := hP.frozen (k * 14 + 7) (by omega)
      have d8 := hP.todo (k * 14 + 8) (by omega) (by omega)
      have f8 := hP.frozen (k * 14 + 8) (by omega)
      have d9 := hP.todo (k * 14 + 9) (by omega) (by omega)
      have f9 := hP.frozen (k * 14 + 9) (by omega)
      have d10 := hP.todo (k * 14 + 10) (by omega) (by omega)
      have f10 := hP.frozen (k * 14 + 10) (by omega)
      have d11 := hP.todo (k * 14 + 11) (by omega) (by omega)
      have f11 := hP.frozen (k * 14 + 11) (by omega)
      have d12 := hP.todo (k * 14 + 12) (by omega) (by omega)
      have f12 := hP.frozen (k * 14 + 12) (by omega)
      have d13 := hP.todo (k * 14 + 13) (by omega) (by omega)
      have f13 := hP.frozen (k * 14 + 13) (by omega)
      go_wp2_with fail
      go_region
      go_wp2
      go_roundw
      case rel =>
        have hp := HR'.out (some ⟨wr.heap.size, 0, none⟩)
        exact ⟨k + 1, by omega, by go_num, bat_step hP hlt hp _, ((hp.below _ _ (by omega) hB).alloc (by have := hp.size; omega) _).drew⟩
      case measure => simp [intOf]; omega
    · go_wp2
      go_ret
      exact ⟨w.heap.size, _, _, w.heap.size + 1 + 1, rfl, bat_log hP hlog, bat_says hP Hsz.out hst, bat_says hP Hsz.out hsu, fun i hi => hP.done i (by omega), hB⟩

set_option maxHeartbeats 2000000 in
theorem new_batch_tf (w : World) (rev : Int) (s d : ByteArray) (bx : Addr) (n cap : Nat) (Tg : Nat → ByteArray) (hn : n ≤ 100000) (hS : Strs w (some bx) n Tg) :
    Calls Try.prog 7 #[.int .i64 rev, .bool true, .string s, .bool false, .string d, .slice (some bx) n cap] w fun e w' => ∃ L t u A, e = .returned (.pointer (some ⟨L, 0, none⟩)) ∧ Log w' L rev t u (.slice (some ⟨A, 0, none⟩) n n) ∧ Says w' true s t ∧ Says w' false d u ∧ (∀ i, i < n → RecAt w' A i (Tg i)) ∧ Below w.heap.size w w' := by
  have hnil := fun w => run_neq_slice_nil_any (P := Try.prog) w 22 9 (some bx) n cap 0 0 Try.underlying22
  obtain ⟨i0, hi, hz0, hz1, hz2⟩ := info_parts Try.info48
  have hb2 : i0.bytes * n ≤ 281474976710656 := by rw [hz2]; omega
  go_enter Try.func7, Try.ntmps7
  go_wp2_with (at_make; refine wpList_make_full _ rfl _ _ 26 rfl w.heap.size 48 i0 (.agg (recCells none none)) 14 Try.underlying26 hi hz0 hz1 _ _ _ _ n rfl rfl (by omega) (by omega) hb2 (by unfold maxLen; omega) (by simp <;> omega) ?_)
  intro w1 hown hgrow
  obtain ⟨W0, hW0⟩ : ∃ W0, W0 = (w.alloc (.cells (logCells rev (some ⟨w.heap.size + 1, 0, none⟩) none (.slice none 0 0)) 57)).alloc (.cells #[.string s] 59) := ⟨_, rfl⟩
  have hlog : Log W0 w.heap.size rev (some ⟨w.heap.size + 1, 0, none⟩) none (.slice none 0 0) := by rw [hW0]; exact (log_alloc rfl _).alloc _
  have hst : Says W0 true s (some ⟨w.heap.size + 1, 0, none⟩) := by rw [hW0]; exact says_new (by simp) _
  have hsu : Says W0 false d none := by rw [hW0]; exact says_no
  have hsz : w.heap.size + 1 + 1 = W0.heap.size := by rw [hW0]; simp
  have hB0 : Below w.heap.size w W0 := by rw [hW0]; exact ((Below.refl _ _).alloc (Nat.le_refl _) _).alloc (by simp) _
  have hg : W0.grownBy w1 none := by rw [hW0]; exact hgrow
  have hf0 : W0.frozen? ⟨w.heap.size, 15, none⟩ = false := by
    have hsz0 : w.heap.size < w.heap.size + 1 + 1 := by omega
    rw [hW0]; rw [World.frozen?_alloc_past _ _ _ (by simp)]; exact World.frozen?_alloc_at _ _ _ _ rfl
  have h15 : W0.cell? ⟨w.heap.size, 15, none⟩ = some (.slice none 0 0) := hlog 15 _ rfl
  have hP := bat_start Tg hsz (by omega) hown hg h15
  have hB2 : Below w.heap.size w (w1.setCell ⟨w.heap.size, 15, none⟩ (.slice (some ⟨w.heap.size + 1 + 1, 0, none⟩) n n)) := (hB0.grown hg (by omega) (fun k h => by cases h)).setCell (by simp) _
  have hblk := hg.block w.heap.size (by omega) (by simp)
  have hc15 : w1.cell? ⟨w.heap.size, 15, none⟩ = some (.slice none 0 0) := (World.cell?_of_block (by exact hblk)).trans h15
  have hf15 : w1.frozen? ⟨w.heap.size, 15, none⟩ = false := (World.frozen?_of_block (by exact hblk)).trans hf0
  have Hsz : Hid (w.heap.size + 1 + 1 = W0.heap.size) := hsz
  clear hown hgrow hi hz0 hz1 hz2 hb2 hsz hB0 hg hf0 h15 hblk hW0
  go_wp2
  go_loopw [14, 44] (fun _ c wr => ∃ k : Nat, k ≤ n ∧ c = .int .i64 k ∧ Bat W0 wr w.heap.size (w.heap.size + 1 + 1) n k Tg ∧ Below w.heap.size w wr) (fun _ c _ => n - (intOf c).toNat)
  case atStart => exact ⟨0, Nat.zero_le _, rfl, hP, hB2⟩
  case round =>
    clear hP hB2 hc15 hf15
    obtain ⟨k, hk, rfl, hP, hB⟩ := hrel
    have h1 := hP.lt
    have e15 := hP.c15
    have hN : w.heap.size < wr.heap.size := by omega
    by_cases hlt : k < n
    · obtain ⟨b, off, e1, hb, hcell⟩ := hS.later hB k hlt
      simp at e1
      subst e1
      have hlt' : (k : Int) < (n : Int) := by omega
      have HR := fun c => put14 wr (w.heap.size + 1 + 1) (k * 14) c (fun j hj => hP.todo (k * 14 + j) (by omega) (by omega))
      have HR' : Hid _ := HR
      clear HR
      have d0 := hP.todo (k * 14) (by omega) (by omega)
      have f0 := hP.frozen (k * 14) (by omega)
      have d1 := hP.todo (k * 14 + 1) (by omega) (by omega)
      have f1 := hP.frozen (k * 14 + 1) (by omega)
      have d2 := hP.todo (k * 14 + 2) (by omega) (by omega)
      have f2 := hP.frozen (k * 14 + 2) (by omega)
      have d3 := hP.todo (k * 14 + 3) (by omega) (by omega)
      have f3 := hP.frozen (k * 14 + 3) (by omega)
      have d4 := hP.todo (k * 14 + 4) (by omega) (by omega)
      have f4 := hP.frozen (k * 14 + 4) (by omega)
      have d5 := hP.todo (k * 14 + 5) (by omega) (by omega)
      have f5 := hP.frozen (k * 14 + 5) (by omega)
      have d6 := hP.todo (k * 14 + 6) (by omega) (by omega)
      have f6 := hP.frozen (k * 14 + 6) (by omega)
      have d7 := hP.todo (k * 14 + 7) (by omega) (by omega)
      have f7 := hP.frozen (k * 14 + 7) (by omega)
      have d8 := hP.todo (k * 14 + 8) (by omega) (by omega)
      have f8 := hP.frozen (k * 14 + 8) (by omega)
      have d9 := hP.todo (k * 14 + 9) (by omega) (by omega)
      have f9 := hP.frozen (k * 14 + 9) (by omega)
      have d10 := hP.todo (k * 14 + 10) (by omega) (by omega)
      have f10 := hP.frozen (k * 14 + 10) (by omega)
      have d11 := hP.todo (k * 14 + 11) (by omega) (by omega)
      have f11 := hP.frozen (k * 14 + 11) (by omega)
      have d12 := hP.todo (k * 14 + 12) (by omega) (by omega)
      have f12 := hP.frozen (k * 14 + 12) (by omega)
      have d13 := hP.todo (k * 14 + 13) (by omega) (by omega)
      have f13 := hP.frozen (k * 14 + 13) (by omega)
      go_wp2_with fail
      go_region
      go_wp2
      go_roundw
      case rel =>
        have hp := HR'.out (some ⟨wr.heap.size, 0, none⟩)
        exact ⟨k + 1, by omega, by go_num, bat_step hP hlt hp _, ((hp.below _ _ (by omega) hB).alloc (by have := hp.size; omega) _).drew⟩
      case measure => simp [intOf]; omega
    · go_wp2
      go_ret
      exact ⟨w.heap.size, _, _, w.heap.size + 1 + 1, rfl, bat_log hP hlog, bat_says hP Hsz.out hst, bat_says hP Hsz.out hsu, fun i hi => hP.done i (by omega), hB⟩

set_option maxHeartbeats 2000000 in
theorem new_batch_tt (w : World) (rev : Int) (s d : ByteArray) (bx : Addr) (n cap : Nat) (Tg : Nat → ByteArray) (hn : n ≤ 100000) (hS : Strs w (some bx) n Tg) :
    Calls Try.prog 7 #[.int .i64 rev, .bool true, .string s, .bool true, .string d, .slice (some bx) n cap] w fun e w' => ∃ L t u A, e = .returned (.pointer (some ⟨L, 0, none⟩)) ∧ Log w' L rev t u (.slice (some ⟨A, 0, none⟩) n n) ∧ Says w' true s t ∧ Says w' true d u ∧ (∀ i, i < n → RecAt w' A i (Tg i)) ∧ Below w.heap.size w w' := by
  have hnil := fun w => run_neq_slice_nil_any (P := Try.prog) w 22 9 (some bx) n cap 0 0 Try.underlying22
  obtain ⟨i0, hi, hz0, hz1, hz2⟩ := info_parts Try.info48
  have hb2 : i0.bytes * n ≤ 281474976710656 := by rw [hz2]; omega
  go_enter Try.func7, Try.ntmps7
  go_wp2_with (at_make; refine wpList_make_full _ rfl _ _ 26 rfl w.heap.size 48 i0 (.agg (recCells none none)) 14 Try.underlying26 hi hz0 hz1 _ _ _ _ n rfl rfl (by omega) (by omega) hb2 (by unfold maxLen; omega) (by simp <;> omega) ?_)
  intro w1 hown hgrow
  obtain ⟨W0, hW0⟩ : ∃ W0, W0 = ((w.alloc (.cells (logCells rev (some ⟨w.heap.size + 1, 0, none⟩) (some ⟨w.heap.size + 1 + 1, 0, none⟩) (.slice none 0 0)) 57)).alloc (.cells #[.string s] 59)).alloc (.cells #[.string d] 61) := ⟨_, rfl⟩
  have hlog : Log W0 w.heap.size rev (some ⟨w.heap.size + 1, 0, none⟩) (some ⟨w.heap.size + 1 + 1, 0, none⟩) (.slice none 0 0) := by rw [hW0]; exact ((log_alloc rfl _).alloc _).alloc _
  have hst : Says W0 true s (some ⟨w.heap.size + 1, 0, none⟩) := by rw [hW0]; exact (says_new (by simp) _).alloc _
  have hsu : Says W0 true d (some ⟨w.heap.size + 1 + 1, 0, none⟩) := by rw [hW0]; exact says_new (by simp) _
  have hsz : w.heap.size + 1 + 1 + 1 = W0.heap.size := by rw [hW0]; simp
  have hB0 : Below w.heap.size w W0 := by rw [hW0]; exact (((Below.refl _ _).alloc (Nat.le_refl _) _).alloc (by simp) _).alloc (by simp; omega) _
  have hg : W0.grownBy w1 none := by rw [hW0]; exact hgrow
  have hf0 : W0.frozen? ⟨w.heap.size, 15, none⟩ = false := by
    have hsz0 : w.heap.size < w.heap.size + 1 + 1 + 1 := by omega
    rw [hW0]; rw [World.frozen?_alloc_past _ _ _ (by simp; omega), World.frozen?_alloc_past _ _ _ (by simp)]; exact World.frozen?_alloc_at _ _ _ _ rfl
  have h15 : W0.cell? ⟨w.heap.size, 15, none⟩ = some (.slice none 0 0) := hlog 15 _ rfl
  have hP := bat_start Tg hsz (by omega) hown hg h15
  have hB2 : Below w.heap.size w (w1.setCell ⟨w.heap.size, 15, none⟩ (.slice (some ⟨w.heap.size + 1 + 1 + 1, 0, none⟩) n n)) := (hB0.grown hg (by omega) (fun k h => by cases h)).setCell (by simp) _
  have hblk := hg.block w.heap.size (by omega) (by simp)
  have hc15 : w1.cell? ⟨w.heap.size, 15, none⟩ = some (.slice none 0 0) := (World.cell?_of_block (by exact hblk)).trans h15
  have hf15 : w1.frozen? ⟨w.heap.size, 15, none⟩ = false := (World.frozen?_of_block (by exact hblk)).trans hf0
  have Hsz : Hid (w.heap.size + 1 + 1 + 1 = W0.heap.size) := hsz
  clear hown hgrow hi hz0 hz1 hz2 hb2 hsz hB0 hg hf0 h15 hblk hW0
  go_wp2
  go_loopw [14, 44] (fun _ c wr => ∃ k : Nat, k ≤ n ∧ c = .int .i64 k ∧ Bat W0 wr w.heap.size (w.heap.size + 1 + 1 + 1) n k Tg ∧ Below w.heap.size w wr) (fun _ c _ => n - (intOf c).toNat)
  case atStart => exact ⟨0, Nat.zero_le _, rfl, hP, hB2⟩
  case round =>
    clear hP hB2 hc15 hf15
    obtain ⟨k, hk, rfl, hP, hB⟩ := hrel
    have h1 := hP.lt
    have e15 := hP.c15
    have hN : w.heap.size < wr.heap.size := by omega
    by_cases hlt : k < n
    · obtain ⟨b, off, e1, hb, hcell⟩ := hS.later hB k hlt
      simp at e1
      subst e1
      have hlt' : (k : Int) < (n : Int) := by omega
      have HR := fun c => put14 wr (w.heap.size + 1 + 1 + 1) (k * 14) c (fun j hj => hP.todo (k * 14 + j) (by omega) (by omega))
      have HR' : Hid _ := HR
      clear HR
      have d0 := hP.todo (k * 14) (by omega) (by omega)
      have f0 := hP.frozen (k * 14) (by omega)
      have d1 := hP.todo (k * 14 + 1) (by omega) (by omega)
      have f1 := hP.frozen (k * 14 + 1) (by omega)
      have d2 := hP.todo (k * 14 + 2) (by omega) (by omega)
      have f2 := hP.frozen (k * 14 + 2) (by omega)
      have d3 := hP.todo (k * 14 + 3) (by omega) (by omega)
      have f3 := hP.frozen (k * 14 + 3) (by omega)
      have d4 := hP.todo (k * 14 + 4) (by omega) (by omega)
      have f4 := hP.frozen (k * 14 + 4) (by omega)
      have d5 := hP.todo (k * 14 + 5) (by omega) (by omega)
      have f5 := hP.frozen (k * 14 + 5) (by omega)
      have d6 := hP.todo (k * 14 + 6) (by omega) (by omega)
      have f6 := hP.frozen (k * 14 + 6) (by omega)
      have d7 := hP.todo (k * 14 + 7) (by omega) (by omega)
      have f7 := hP.frozen (k * 14 + 7) (by omega)
      have d8 := hP.todo (k * 14 + 8) (by omega) (by omega)
      have f8 := hP.frozen (k * 14 + 8) (by omega)
      have d9 := hP.todo (k * 14 + 9) (by omega) (by omega)
      have f9 := hP.frozen (k * 14 + 9) (by omega)
      have d10 := hP.todo (k * 14 + 10) (by omega) (by omega)
      have f10 := hP.frozen (k * 14 + 10) (by omega)
      have d11 := hP.todo (k * 14 + 11) (by omega) (by omega)
      have f11 := hP.frozen (k * 14 + 11) (by omega)
      have d12 := hP.todo (k * 14 + 12) (by omega) (by omega)
      have f12 := hP.frozen (k * 14 + 12) (by omega)
      have d13 := hP.todo (k * 14 + 13) (by omega) (by omega)
      have f13 := hP.frozen (k * 14 + 13) (by omega)
      go_wp2_with fail
      go_region
      go_wp2
      go_roundw
      case rel =>
        have hp := HR'.out (some ⟨wr.heap.size, 0, none⟩)
        exact ⟨k + 1, by omega, by go_num, bat_step hP hlt hp _, ((hp.below _ _ (by omega) hB).alloc (by have := hp.size; omega) _).drew⟩
      case measure => simp [intOf]; omega
    · go_wp2
      go_ret
      exact ⟨w.heap.size, _, _, w.heap.size + 1 + 1 + 1, rfl, bat_log hP hlog, bat_says hP Hsz.out hst, bat_says hP Hsz.out hsu, fun i hi => hP.done i (by omega), hB⟩

end Go.Proofs.Qxb6614307a
