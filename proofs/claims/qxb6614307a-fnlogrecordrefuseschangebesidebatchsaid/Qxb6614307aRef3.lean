/-
  Seat b6614307a: the walk of FnLogRecordRefusesChangeBesideBatch: an empty batch that is not nil.
-/
import Derived.Test.Qxb6614307aAlone
import Derived.Test.Qxb6614307aBytes11
namespace Go.Proofs.Qxb6614307a
open Go.RowKit
set_option linter.unusedVariables false

theorem make_one (w : World) : (Instr.makeSlice 22 (.int .i64 1) (.int .i64 1)).run Try.prog w = .ok (.slice (some ⟨w.heap.size, 0, none⟩) 1 1) (w.alloc (.cells #[.string ⟨#[]⟩] 9)) := by kernel_rfl

theorem changes_one (w : World) (L : Nat) (rev : Int) (a : Option Addr) (c : Nat) (h : Log w L rev none none (.slice a 1 c)) :
    Calls Try.prog 8 #[.pointer (some ⟨L, 0, none⟩)] w fun e w' => e = .returned (.tuple #[.slice a 1 c, .nilIface]) ∧ w = w' :=
  changes_batch w L rev a 0 c h

theorem strs_one {w : World} {s : ByteArray} : Strs (w.alloc (.cells #[.string s] 9)) (some ⟨w.heap.size, 0, none⟩) 1 (fun _ => s) := by
  intro i hi
  obtain rfl : i = 0 := by omega
  exact ⟨_, _, rfl, by simp, by rw [World.cell?_alloc_at _ _ _ _ rfl]; rfl⟩

set_option maxRecDepth 100000 in
set_option maxHeartbeats 2000000 in
theorem ref0_ff (w : World) (rev : Int) (s d : ByteArray) (bx : Addr) (cap : Nat) (Tg : Nat → ByteArray) (hS : Strs w (some bx) 0 Tg) :
    Calls Try.prog 4 #[.int .i64 rev, .bool false, .string s, .bool false, .string d, .slice (some bx) 0 cap] w fun e w' => e = .returned (.bool true) ∧ Below w.heap.size w w' := by
  have hneq := fun w => run_neq_slice_nil_any (P := Try.prog) w 22 9 (some bx) 0 cap 0 0 Try.underlying22
  obtain ⟨i0, hi, hz0, hz1, hz2⟩ := info_parts Try.info9
  have hb2 : i0.bytes * 0 ≤ 281474976710656 := by rw [hz2]; omega
  go_enter Try.func4, Try.ntmps4
  go_wp2_with fail
  refine (bytes11 w rev false false s d (some bx) 0 cap Tg hS).mono ?_
  rintro e w' ⟨bo, rfl, hsm, rfl⟩
  cases bo
  · go_wp2
    go_ret
    exact ⟨rfl, Below.refl _ _⟩
  obtain ⟨⟨g1, g2, g3⟩, hsmall⟩ := hsm rfl
  clear hsm
  have t1 : decide ((1048576 : Int) < s.size) = false := decide_eq_false (by omega)
  have t2 : decide ((1048576 : Int) < d.size) = false := decide_eq_false (by omega)
  have t3 : decide ((1048576 : Int) < s.size + d.size) = false := decide_eq_false (by omega)
  go_wp2_with (at_make; refine wpList_make_full _ rfl _ _ 22 rfl w.heap.size 9 i0 (.string ⟨#[]⟩) 1 Try.underlying22 hi hz0 hz1 _ _ _ _ 0 rfl rfl (by omega) (by omega) hb2 (by unfold maxLen; omega) (Nat.le_refl _) ?_)
  intro w1 hown hgrow
  have hblk := block_of_row hown
  have hB1 : Below w.heap.size w w1 := (Below.refl _ _).grown hgrow (Nat.le_refl _) (fun k h => by cases h)
  have HL : Hid ((tags Tg 0).length = Nat.min 0 0) := by show _ = _; rw [tags_length]; exact (Nat.min_self _).symm
  have HP : Hid _ := copy_facts (w := w) w.heap.size (hS.later hB1)
  have HF : Hid (0 + (tags Tg 0).length ≤ ((madeCells #[Value.string ⟨#[]⟩] 0).toList).length) := by show _ ≤ _; rw [tags_length, toList_madeCells_one]; simp
  have HK : Hid _ := hblk
  have hl1 : w.heap.size < w1.heap.size := (hown.lt _ rfl).2
  clear hblk hown hgrow hb2
  go_wp2_with (refine wpList_copy_splice rfl (.tmp 75) (.tmp 76) 22 22 rfl 9 Try.underlying22 Try.size9 _ _ _ _ _ _ rfl rfl w.heap.size 0 _ 9 HK.out (tags Tg 0) HL.out HP.out HF.out (tags_one _ _) w.heap.size w1 (Below.refl _ _) (Nat.le_refl _) ?_)
  intro w2 hrow hB2
  have hM2 : Mine w w2 w.heap.size 0 Tg := mine_copied (Nat.lt_of_lt_of_le hl1 hB2.size) (hB1.trans hB2) hrow.out
  clear hrow HL HP HF HK hB1 hB2 hl1 hS hneq
  go_wp2_with fail
  go_loop [14, 15, 88] (fun z _ c => ∃ (k : Nat) (q : Int), k ≤ 0 ∧ c = .int .i64 k ∧ z = .int .i64 q ∧ 0 ≤ q ∧ q ≤ 1048576) (fun _ _ c => 0 - (intOf c).toNat)
  case atStart => exact ⟨0, _, Nat.zero_le _, rfl, rfl, by omega, by omega⟩
  case round =>
    obtain ⟨k, q, hk, rfl, rfl, hq0, hq1⟩ := hrel
    obtain rfl : k = 0 := by omega
    clear t1 t2 t3 hsmall hk
    go_wp2_with fail
    refine (new_batch_ff w2 rev s d ⟨w.heap.size, 0, none⟩ 0 0 Tg (by omega) hM2.strs).mono ?_
    rintro e w3 ⟨L, t, u, A, rfl, hlog, hst, hsu, hrec, hb3⟩
    have hB3 : Below w.heap.size w w3 := (hM2.later hb3).below
    clear hM2 hb3 hrec
    obtain rfl : t = none := says_none hst
    obtain rfl : u = none := says_none hsu
    clear hst hsu
    go_wp2_with fail
    refine (changes_alone w3 L rev none none _ _ hlog).mono ?_
    rintro e w4 ⟨rfl, rfl⟩
    have hb4 : Below w3.heap.size w3 (w3.alloc (.cells (recCells none none) 48)) := (Below.refl _ _).alloc (Nat.le_refl _) _
    have hB4 : Below w.heap.size w (w3.alloc (.cells (recCells none none) 48)) := hB3.trans (hb4.mono hB3.size)
    clear hB3 hlog hb4 
    go_wp2_with fail
    refine (view_none _).mono ?_
    rintro e w5 ⟨rfl, hb5⟩
    have hB5 : Below w.heap.size w w5 := hB4.trans (hb5.mono hB4.size)
    clear hB4 hb5 
    go_wp2_with fail
    refine (is_any w5 false false ⟨#[]⟩ ⟨#[]⟩).mono ?_
    rintro e w6 ⟨rfl, rfl⟩
    go_wp2
    go_ret
    exact ⟨rfl, hB5⟩

set_option maxRecDepth 100000 in
set_option maxHeartbeats 2000000 in
theorem ref0_ft (w : World) (rev : Int) (s d : ByteArray) (bx : Addr) (cap : Nat) (Tg : Nat → ByteArray) (hS : Strs w (some bx) 0 Tg) :
    Calls Try.prog 4 #[.int .i64 rev, .bool false, .string s, .bool true, .string d, .slice (some bx) 0 cap] w fun e w' => e = .returned (.bool true) ∧ Below w.heap.size w w' := by
  have hneq := fun w => run_neq_slice_nil_any (P := Try.prog) w 22 9 (some bx) 0 cap 0 0 Try.underlying22
  obtain ⟨i0, hi, hz0, hz1, hz2⟩ := info_parts Try.info9
  have hb2 : i0.bytes * 0 ≤ 281474976710656 := by rw [hz2]; omega
  go_enter Try.func4, Try.ntmps4
  go_wp2_with fail
  refine (bytes11 w rev false true s d (some bx) 0 cap Tg hS).mono ?_
  rintro e w' ⟨bo, rfl, hsm, rfl⟩
  cases bo
  · go_wp2
    go_ret
    exact ⟨rfl, Below.refl _ _⟩
  obtain ⟨⟨g1, g2, g3⟩, hsmall⟩ := hsm rfl
  clear hsm
  have t1 : decide ((1048576 : Int) < s.size) = false := decide_eq_false (by omega)
  have t2 : decide ((1048576 : Int) < d.size) = false := decide_eq_false (by omega)
  have t3 : decide ((1048576 : Int) < s.size + d.size) = false := decide_eq_false (by omega)
  go_wp2_with (at_make; refine wpList_make_full _ rfl _ _ 22 rfl w.heap.size 9 i0 (.string ⟨#[]⟩) 1 Try.underlying22 hi hz0 hz1 _ _ _ _ 0 rfl rfl (by omega) (by omega) hb2 (by unfold maxLen; omega) (Nat.le_refl _) ?_)
  intro w1 hown hgrow
  have hblk := block_of_row hown
  have hB1 : Below w.heap.size w w1 := (Below.refl _ _).grown hgrow (Nat.le_refl _) (fun k h => by cases h)
  have HL : Hid ((tags Tg 0).length = Nat.min 0 0) := by show _ = _; rw [tags_length]; exact (Nat.min_self _).symm
  have HP : Hid _ := copy_facts (w := w) w.heap.size (hS.later hB1)
  have HF : Hid (0 + (tags Tg 0).length ≤ ((madeCells #[Value.string ⟨#[]⟩] 0).toList).length) := by show _ ≤ _; rw [tags_length, toList_madeCells_one]; simp
  have HK : Hid _ := hblk
  have hl1 : w.heap.size < w1.heap.size := (hown.lt _ rfl).2
  clear hblk hown hgrow hb2
  go_wp2_with (refine wpList_copy_splice rfl (.tmp 75) (.tmp 76) 22 22 rfl 9 Try.underlying22 Try.size9 _ _ _ _ _ _ rfl rfl w.heap.size 0 _ 9 HK.out (tags Tg 0) HL.out HP.out HF.out (tags_one _ _) w.heap.size w1 (Below.refl _ _) (Nat.le_refl _) ?_)
  intro w2 hrow hB2
  have hM2 : Mine w w2 w.heap.size 0 Tg := mine_copied (Nat.lt_of_lt_of_le hl1 hB2.size) (hB1.trans hB2) hrow.out
  clear hrow HL HP HF HK hB1 hB2 hl1 hS hneq
  go_wp2_with fail
  go_loop [14, 15, 88] (fun z _ c => ∃ (k : Nat) (q : Int), k ≤ 0 ∧ c = .int .i64 k ∧ z = .int .i64 q ∧ 0 ≤ q ∧ q ≤ 1048576) (fun _ _ c => 0 - (intOf c).toNat)
  case atStart => exact ⟨0, _, Nat.zero_le _, rfl, rfl, by omega, by omega⟩
  case round =>
    obtain ⟨k, q, hk, rfl, rfl, hq0, hq1⟩ := hrel
    obtain rfl : k = 0 := by omega
    clear t1 t2 t3 hsmall hk
    go_wp2_with fail
    refine (new_batch_ft w2 rev s d ⟨w.heap.size, 0, none⟩ 0 0 Tg (by omega) hM2.strs).mono ?_
    rintro e w3 ⟨L, t, u, A, rfl, hlog, hst, hsu, hrec, hb3⟩
    have hB3 : Below w.heap.size w w3 := (hM2.later hb3).below
    clear hM2 hb3 hrec
    obtain rfl : t = none := says_none hst
    obtain ⟨U, rfl, hU⟩ := says_some hsu
    clear hst hsu
    go_wp2_with fail
    refine (changes_alone w3 L rev none (some ⟨U, 0, none⟩) _ _ hlog).mono ?_
    rintro e w4 ⟨rfl, rfl⟩
    have hb4 : Below w3.heap.size w3 (w3.alloc (.cells (recCells none (some ⟨U, 0, none⟩)) 48)) := (Below.refl _ _).alloc (Nat.le_refl _) _
    have hB4 : Below w.heap.size w (w3.alloc (.cells (recCells none (some ⟨U, 0, none⟩)) 48)) := hB3.trans (hb4.mono hB3.size)
    have hU4 : (w3.alloc (.cells (recCells none (some ⟨U, 0, none⟩)) 48)).cell? ⟨U, 0, none⟩ = some (.string d) := (hb4.cell (by exact block_lt_of_cell hU)).trans hU
    clear hB3 hlog hb4 hU
    go_wp2_with fail
    refine (view_user _ U d hU4).mono ?_
    rintro e w5 ⟨rfl, hb5⟩
    have hB5 : Below w.heap.size w w5 := hB4.trans (hb5.mono hB4.size)
    clear hB4 hb5 hU4
    go_wp2_with fail
    refine (is_any w5 false true ⟨#[]⟩ d).mono ?_
    rintro e w6 ⟨rfl, rfl⟩
    go_wp2
    go_ret
    exact ⟨rfl, hB5⟩

set_option maxRecDepth 100000 in
set_option maxHeartbeats 2000000 in
theorem ref0_tf (w : World) (rev : Int) (s d : ByteArray) (bx : Addr) (cap : Nat) (Tg : Nat → ByteArray) (hS : Strs w (some bx) 0 Tg) :
    Calls Try.prog 4 #[.int .i64 rev, .bool true, .string s, .bool false, .string d, .slice (some bx) 0 cap] w fun e w' => e = .returned (.bool true) ∧ Below w.heap.size w w' := by
  have hneq := fun w => run_neq_slice_nil_any (P := Try.prog) w 22 9 (some bx) 0 cap 0 0 Try.underlying22
  obtain ⟨i0, hi, hz0, hz1, hz2⟩ := info_parts Try.info9
  have hb2 : i0.bytes * 0 ≤ 281474976710656 := by rw [hz2]; omega
  go_enter Try.func4, Try.ntmps4
  go_wp2_with fail
  refine (bytes11 w rev true false s d (some bx) 0 cap Tg hS).mono ?_
  rintro e w' ⟨bo, rfl, hsm, rfl⟩
  cases bo
  · go_wp2
    go_ret
    exact ⟨rfl, Below.refl _ _⟩
  obtain ⟨⟨g1, g2, g3⟩, hsmall⟩ := hsm rfl
  clear hsm
  have t1 : decide ((1048576 : Int) < s.size) = false := decide_eq_false (by omega)
  have t2 : decide ((1048576 : Int) < d.size) = false := decide_eq_false (by omega)
  have t3 : decide ((1048576 : Int) < s.size + d.size) = false := decide_eq_false (by omega)
  go_wp2_with (at_make; refine wpList_make_full _ rfl _ _ 22 rfl w.heap.size 9 i0 (.string ⟨#[]⟩) 1 Try.underlying22 hi hz0 hz1 _ _ _ _ 0 rfl rfl (by omega) (by omega) hb2 (by unfold maxLen; omega) (Nat.le_refl _) ?_)
  intro w1 hown hgrow
  have hblk := block_of_row hown
  have hB1 : Below w.heap.size w w1 := (Below.refl _ _).grown hgrow (Nat.le_refl _) (fun k h => by cases h)
  have HL : Hid ((tags Tg 0).length = Nat.min 0 0) := by show _ = _; rw [tags_length]; exact (Nat.min_self _).symm
  have HP : Hid _ := copy_facts (w := w) w.heap.size (hS.later hB1)
  have HF : Hid (0 + (tags Tg 0).length ≤ ((madeCells #[Value.string ⟨#[]⟩] 0).toList).length) := by show _ ≤ _; rw [tags_length, toList_madeCells_one]; simp
  have HK : Hid _ := hblk
  have hl1 : w.heap.size < w1.heap.size := (hown.lt _ rfl).2
  clear hblk hown hgrow hb2
  go_wp2_with (refine wpList_copy_splice rfl (.tmp 75) (.tmp 76) 22 22 rfl 9 Try.underlying22 Try.size9 _ _ _ _ _ _ rfl rfl w.heap.size 0 _ 9 HK.out (tags Tg 0) HL.out HP.out HF.out (tags_one _ _) w.heap.size w1 (Below.refl _ _) (Nat.le_refl _) ?_)
  intro w2 hrow hB2
  have hM2 : Mine w w2 w.heap.size 0 Tg := mine_copied (Nat.lt_of_lt_of_le hl1 hB2.size) (hB1.trans hB2) hrow.out
  clear hrow HL HP HF HK hB1 hB2 hl1 hS hneq
  go_wp2_with fail
  go_loop [14, 15, 88] (fun z _ c => ∃ (k : Nat) (q : Int), k ≤ 0 ∧ c = .int .i64 k ∧ z = .int .i64 q ∧ 0 ≤ q ∧ q ≤ 1048576) (fun _ _ c => 0 - (intOf c).toNat)
  case atStart => exact ⟨0, _, Nat.zero_le _, rfl, rfl, by omega, by omega⟩
  case round =>
    obtain ⟨k, q, hk, rfl, rfl, hq0, hq1⟩ := hrel
    obtain rfl : k = 0 := by omega
    clear t1 t2 t3 hsmall hk
    go_wp2_with fail
    refine (new_batch_tf w2 rev s d ⟨w.heap.size, 0, none⟩ 0 0 Tg (by omega) hM2.strs).mono ?_
    rintro e w3 ⟨L, t, u, A, rfl, hlog, hst, hsu, hrec, hb3⟩
    have hB3 : Below w.heap.size w w3 := (hM2.later hb3).below
    clear hM2 hb3 hrec
    obtain ⟨T, rfl, hT⟩ := says_some hst
    obtain rfl : u = none := says_none hsu
    clear hst hsu
    go_wp2_with fail
    refine (changes_alone w3 L rev (some ⟨T, 0, none⟩) none _ _ hlog).mono ?_
    rintro e w4 ⟨rfl, rfl⟩
    have hb4 : Below w3.heap.size w3 (w3.alloc (.cells (recCells (some ⟨T, 0, none⟩) none) 48)) := (Below.refl _ _).alloc (Nat.le_refl _) _
    have hB4 : Below w.heap.size w (w3.alloc (.cells (recCells (some ⟨T, 0, none⟩) none) 48)) := hB3.trans (hb4.mono hB3.size)
    have hT4 : (w3.alloc (.cells (recCells (some ⟨T, 0, none⟩) none) 48)).cell? ⟨T, 0, none⟩ = some (.string s) := (hb4.cell (by exact block_lt_of_cell hT)).trans hT
    clear hB3 hlog hb4 hT
    go_wp2_with fail
    refine (view_tag _ T s hT4).mono ?_
    rintro e w5 ⟨rfl, hb5⟩
    have hB5 : Below w.heap.size w w5 := hB4.trans (hb5.mono hB4.size)
    clear hB4 hb5 hT4
    go_wp2_with fail
    refine (is_any w5 true false s ⟨#[]⟩).mono ?_
    rintro e w6 ⟨rfl, rfl⟩
    have hmk := make_one
    go_wp2_with fail
    refine (new_batch_ff _ rev ⟨#[]⟩ ⟨#[]⟩ ⟨w5.heap.size, 0, none⟩ 1 1 (fun _ => s) (by omega) strs_one).mono ?_
    rintro e w8 ⟨L2, t2, u2, A2, rfl, hlog2, hst2, hsu2, hrec2, hb8⟩
    have hB8 : Below w.heap.size w w8 := (hB5.alloc hB5.size _).trans (hb8.mono (hB5.alloc hB5.size _).size)
    obtain rfl : t2 = none := says_none hst2
    obtain rfl : u2 = none := says_none hsu2
    clear hB5 hb8 hst2 hsu2 hmk
    go_wp2_with fail
    refine (changes_one w8 L2 rev _ _ hlog2).mono ?_
    rintro e w9 ⟨rfl, rfl⟩
    have hr := hrec2 0 (by omega)
    obtain ⟨b, hAb, q0', hbs⟩ := hr.2
    have q0 : w8.cell? ⟨A2, 0, none⟩ = some (.pointer (some ⟨b, 0, none⟩)) := q0'
    have q1 : w8.cell? ⟨A2, 1, none⟩ = some (.pointer none) := by have := hr.1 1 (by omega) (by omega); simpa using this
    have q2 : w8.cell? ⟨A2, 2, none⟩ = some (.pointer none) := by have := hr.1 2 (by omega) (by omega); simpa using this
    have q3 : w8.cell? ⟨A2, 3, none⟩ = some (.pointer none) := by have := hr.1 3 (by omega) (by omega); simpa using this
    have q4 : w8.cell? ⟨A2, 4, none⟩ = some (.pointer none) := by have := hr.1 4 (by omega) (by omega); simpa using this
    have q5 : w8.cell? ⟨A2, 5, none⟩ = some (.pointer none) := by have := hr.1 5 (by omega) (by omega); simpa using this
    have q6 : w8.cell? ⟨A2, 6, none⟩ = some (.pointer none) := by have := hr.1 6 (by omega) (by omega); simpa using this
    have q7 : w8.cell? ⟨A2, 7, none⟩ = some (.pointer none) := by have := hr.1 7 (by omega) (by omega); simpa using this
    have q8 : w8.cell? ⟨A2, 8, none⟩ = some (.pointer none) := by have := hr.1 8 (by omega) (by omega); simpa using this
    have q9 : w8.cell? ⟨A2, 9, none⟩ = some (.pointer none) := by have := hr.1 9 (by omega) (by omega); simpa using this
    have q10 : w8.cell? ⟨A2, 10, none⟩ = some (.pointer none) := by have := hr.1 10 (by omega) (by omega); simpa using this
    have q11 : w8.cell? ⟨A2, 11, none⟩ = some (.pointer none) := by have := hr.1 11 (by omega) (by omega); simpa using this
    have q12 : w8.cell? ⟨A2, 12, none⟩ = some (.pointer none) := by have := hr.1 12 (by omega) (by omega); simpa using this
    have q13 : w8.cell? ⟨A2, 13, none⟩ = some (.pointer none) := by have := hr.1 13 (by omega) (by omega); simpa using this
    clear hlog2 hr q0' hrec2
    go_wp2_with fail
    refine (view_tag _ b s hbs).mono ?_
    rintro e wa ⟨rfl, hba⟩
    have hBa : Below w.heap.size w wa := hB8.trans (hba.mono hB8.size)
    clear q0 q1 q2 q3 q4 q5 q6 q7 q8 q9 q10 q11 q12 q13 hB8 hba hbs
    go_wp2_with fail
    refine (is_any wa true false s ⟨#[]⟩).mono ?_
    rintro e wb ⟨rfl, rfl⟩
    go_wp2
    go_ret
    exact ⟨rfl, hBa⟩

set_option maxRecDepth 100000 in
set_option maxHeartbeats 2000000 in
theorem ref0_tt (w : World) (rev : Int) (s d : ByteArray) (bx : Addr) (cap : Nat) (Tg : Nat → ByteArray) (hS : Strs w (some bx) 0 Tg) :
    Calls Try.prog 4 #[.int .i64 rev, .bool true, .string s, .bool true, .string d, .slice (some bx) 0 cap] w fun e w' => e = .returned (.bool true) ∧ Below w.heap.size w w' := by
  have hneq := fun w => run_neq_slice_nil_any (P := Try.prog) w 22 9 (some bx) 0 cap 0 0 Try.underlying22
  obtain ⟨i0, hi, hz0, hz1, hz2⟩ := info_parts Try.info9
  have hb2 : i0.bytes * 0 ≤ 281474976710656 := by rw [hz2]; omega
  go_enter Try.func4, Try.ntmps4
  go_wp2_with fail
  refine (bytes11 w rev true true s d (some bx) 0 cap Tg hS).mono ?_
  rintro e w' ⟨bo, rfl, hsm, rfl⟩
  cases bo
  · go_wp2
    go_ret
    exact ⟨rfl, Below.refl _ _⟩
  obtain ⟨⟨g1, g2, g3⟩, hsmall⟩ := hsm rfl
  clear hsm
  have t1 : decide ((1048576 : Int) < s.size) = false := decide_eq_false (by omega)
  have t2 : decide ((1048576 : Int) < d.size) = false := decide_eq_false (by omega)
  have t3 : decide ((1048576 : Int) < s.size + d.size) = false := decide_eq_false (by omega)
  go_wp2_with (at_make; refine wpList_make_full _ rfl _ _ 22 rfl w.heap.size 9 i0 (.string ⟨#[]⟩) 1 Try.underlying22 hi hz0 hz1 _ _ _ _ 0 rfl rfl (by omega) (by omega) hb2 (by unfold maxLen; omega) (Nat.le_refl _) ?_)
  intro w1 hown hgrow
  have hblk := block_of_row hown
  have hB1 : Below w.heap.size w w1 := (Below.refl _ _).grown hgrow (Nat.le_refl _) (fun k h => by cases h)
  have HL : Hid ((tags Tg 0).length = Nat.min 0 0) := by show _ = _; rw [tags_length]; exact (Nat.min_self _).symm
  have HP : Hid _ := copy_facts (w := w) w.heap.size (hS.later hB1)
  have HF : Hid (0 + (tags Tg 0).length ≤ ((madeCells #[Value.string ⟨#[]⟩] 0).toList).length) := by show _ ≤ _; rw [tags_length, toList_madeCells_one]; simp
  have HK : Hid _ := hblk
  have hl1 : w.heap.size < w1.heap.size := (hown.lt _ rfl).2
  clear hblk hown hgrow hb2
  go_wp2_with (refine wpList_copy_splice rfl (.tmp 75) (.tmp 76) 22 22 rfl 9 Try.underlying22 Try.size9 _ _ _ _ _ _ rfl rfl w.heap.size 0 _ 9 HK.out (tags Tg 0) HL.out HP.out HF.out (tags_one _ _) w.heap.size w1 (Below.refl _ _) (Nat.le_refl _) ?_)
  intro w2 hrow hB2
  have hM2 : Mine w w2 w.heap.size 0 Tg := mine_copied (Nat.lt_of_lt_of_le hl1 hB2.size) (hB1.trans hB2) hrow.out
  clear hrow HL HP HF HK hB1 hB2 hl1 hS hneq
  go_wp2_with fail
  go_loop [14, 15, 88] (fun z _ c => ∃ (k : Nat) (q : Int), k ≤ 0 ∧ c = .int .i64 k ∧ z = .int .i64 q ∧ 0 ≤ q ∧ q ≤ 1048576) (fun _ _ c => 0 - (intOf c).toNat)
  case atStart => exact ⟨0, _, Nat.zero_le _, rfl, rfl, by omega, by omega⟩
  case round =>
    obtain ⟨k, q, hk, rfl, rfl, hq0, hq1⟩ := hrel
    obtain rfl : k = 0 := by omega
    clear t1 t2 t3 hsmall hk
    go_wp2_with fail
    refine (new_batch_tt w2 rev s d ⟨w.heap.size, 0, none⟩ 0 0 Tg (by omega) hM2.strs).mono ?_
    rintro e w3 ⟨L, t, u, A, rfl, hlog, hst, hsu, hrec, hb3⟩
    have hB3 : Below w.heap.size w w3 := (hM2.later hb3).below
    clear hM2 hb3 hrec
    obtain ⟨T, rfl, hT⟩ := says_some hst
    obtain ⟨U, rfl, hU⟩ := says_some hsu
    clear hst hsu
    go_wp2_with fail
    refine (changes_alone w3 L rev (some ⟨T, 0, none⟩) (some ⟨U, 0, none⟩) _ _ hlog).mono ?_
    rintro e w4 ⟨rfl, rfl⟩
    have hb4 : Below w3.heap.size w3 (w3.alloc (.cells (recCells (some ⟨T, 0, none⟩) (some ⟨U, 0, none⟩)) 48)) := (Below.refl _ _).alloc (Nat.le_refl _) _
    have hB4 : Below w.heap.size w (w3.alloc (.cells (recCells (some ⟨T, 0, none⟩) (some ⟨U, 0, none⟩)) 48)) := hB3.trans (hb4.mono hB3.size)
    have hT4 : (w3.alloc (.cells (recCells (some ⟨T, 0, none⟩) (some ⟨U, 0, none⟩)) 48)).cell? ⟨T, 0, none⟩ = some (.string s) := (hb4.cell (by exact block_lt_of_cell hT)).trans hT
    have hU4 : (w3.alloc (.cells (recCells (some ⟨T, 0, none⟩) (some ⟨U, 0, none⟩)) 48)).cell? ⟨U, 0, none⟩ = some (.string d) := (hb4.cell (by exact block_lt_of_cell hU)).trans hU
    clear hB3 hlog hb4 hT hU
    go_wp2_with fail
    refine (view_both _ T U s d hT4 hU4).mono ?_
    rintro e w5 ⟨rfl, hb5⟩
    have hB5 : Below w.heap.size w w5 := hB4.trans (hb5.mono hB4.size)
    clear hB4 hb5 hT4 hU4
    go_wp2_with fail
    refine (is_any w5 true true s d).mono ?_
    rintro e w6 ⟨rfl, rfl⟩
    go_wp2
    go_ret
    exact ⟨rfl, hB5⟩

end Go.Proofs.Qxb6614307a
