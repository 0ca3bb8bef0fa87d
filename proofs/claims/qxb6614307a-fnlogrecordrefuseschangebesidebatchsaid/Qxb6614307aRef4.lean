/-
  Seat b6614307a: the walk of FnLogRecordRefusesChangeBesideBatch: a nil batch.
-/
import Derived.Test.Qxb6614307aRef3
import Derived.Test.Qxb6614307aBytes11
namespace Go.Proofs.Qxb6614307a
open Go.RowKit
set_option linter.unusedVariables false

set_option maxRecDepth 100000 in
set_option maxHeartbeats 2000000 in
theorem refn_ff (w : World) (rev : Int) (s d : ByteArray) :
    Calls Try.prog 4 #[.int .i64 rev, .bool false, .string s, .bool false, .string d, .slice none 0 0] w fun e w' => e = .returned (.bool true) ∧ Below w.heap.size w w' := by
  have hneq := fun w => run_neq_slice_nil_any (P := Try.prog) w 22 9 none 0 0 0 0 Try.underlying22
  go_enter Try.func4, Try.ntmps4
  go_wp2_with fail
  refine (bytes11 w rev false false s d none 0 0 (fun _ => ⟨#[]⟩) (fun i hi => absurd hi (Nat.not_lt_zero _))).mono ?_
  rintro e w' ⟨bo, rfl, hsm, rfl⟩
  cases bo
  · go_wp2
    go_ret
    exact ⟨rfl, Below.refl _ _⟩
  obtain ⟨⟨g1, g2, g3⟩, hsmall⟩ := hsm rfl
  clear hsm hsmall
  have t1 : decide ((1048576 : Int) < s.size) = false := decide_eq_false (by omega)
  have t2 : decide ((1048576 : Int) < d.size) = false := decide_eq_false (by omega)
  have t3 : decide ((1048576 : Int) < s.size + d.size) = false := decide_eq_false (by omega)
  go_wp2_with fail
  go_loop [14, 15, 88] (fun z _ c => z = .int .i64 ((s.size : Int) + d.size) ∧ c = .int .i64 0) (fun _ _ _ => 0)
  case atStart => exact ⟨rfl, rfl⟩
  case round =>
    obtain ⟨rfl, rfl⟩ := hrel
    clear t1 t2 t3 hneq
    go_wp2_with fail
    refine (new_nil w rev false false s d).mono ?_
    rintro e w3 ⟨L, t, u, rfl, hlog, hst, hsu, hB3⟩
    obtain rfl : t = none := says_none hst
    obtain rfl : u = none := says_none hsu
    clear hst hsu
    go_wp2_with fail
    refine (changes_alone w3 L rev none none _ _ hlog).mono ?_
    rintro e w4 ⟨rfl, rfl⟩
    have hb4 : Below w3.heap.size w3 (w3.alloc (.cells (recCells none none) 48)) := (Below.refl _ _).alloc (Nat.le_refl _) _
    have hB4 : Below w.heap.size w (w3.alloc (.cells (recCells none none) 48)) := hB3.trans (hb4.mono hB3.size)
    clear hB3 hlog hb4 
    go_wp2_with fail
    refine (view_none _).mono ?_
    rintro e w5 ⟨rfl, hb5⟩
    have hB5 : Below w.heap.size w w5 := hB4.trans (hb5.mono hB4.size)
    clear hB4 hb5 
    go_wp2_with fail
    refine (is_any w5 false false ⟨#[]⟩ ⟨#[]⟩).mono ?_
    rintro e w6 ⟨rfl, rfl⟩
    go_wp2
    go_ret
    exact ⟨rfl, hB5⟩

set_option maxRecDepth 100000 in
set_option maxHeartbeats 2000000 in
theorem refn_ft (w : World) (rev : Int) (s d : ByteArray) :
    Calls Try.prog 4 #[.int .i64 rev, .bool false, .string s, .bool true, .string d, .slice none 0 0] w fun e w' => e = .returned (.bool true) ∧ Below w.heap.size w w' := by
  have hneq := fun w => run_neq_slice_nil_any (P := Try.prog) w 22 9 none 0 0 0 0 Try.underlying22
  go_enter Try.func4, Try.ntmps4
  go_wp2_with fail
  refine (bytes11 w rev false true s d none 0 0 (fun _ => ⟨#[]⟩) (fun i hi => absurd hi (Nat.not_lt_zero _))).mono ?_
  rintro e w' ⟨bo, rfl, hsm, rfl⟩
  cases bo
  · go_wp2
    go_ret
    exact ⟨rfl, Below.refl _ _⟩
  obtain ⟨⟨g1, g2, g3⟩, hsmall⟩ := hsm rfl
  clear hsm hsmall
  have t1 : decide ((1048576 : Int) < s.size) = false := decide_eq_false (by omega)
  have t2 : decide ((1048576 : Int) < d.size) = false := decide_eq_false (by omega)
  have t3 : decide ((1048576 : Int) < s.size + d.size) = false := decide_eq_false (by omega)
  go_wp2_with fail
  go_loop [14, 15, 88] (fun z _ c => z = .int .i64 ((s.size : Int) + d.size) ∧ c = .int .i64 0) (fun _ _ _ => 0)
  case atStart => exact ⟨rfl, rfl⟩
  case round =>
    obtain ⟨rfl, rfl⟩ := hrel
    clear t1 t2 t3 hneq
    go_wp2_with fail
    refine (new_nil w rev false true s d).mono ?_
    rintro e w3 ⟨L, t, u, rfl, hlog, hst, hsu, hB3⟩
    obtain rfl : t = none := says_none hst
    obtain ⟨U, rfl, hU⟩ := says_some hsu
    clear hst hsu
    go_wp2_with fail
    refine (changes_alone w3 L rev none (some ⟨U, 0, none⟩) _ _ hlog).mono ?_
    rintro e w4 ⟨rfl, rfl⟩
    have hb4 : Below w3.heap.size w3 (w3.alloc (.cells (recCells none (some ⟨U, 0, none⟩)) 48)) := (Below.refl _ _).alloc (Nat.le_refl _) _
    have hB4 : Below w.heap.size w (w3.alloc (.cells (recCells none (some ⟨U, 0, none⟩)) 48)) := hB3.trans (hb4.mono hB3.size)
    have hU4 : (w3.alloc (.cells (recCells none (some ⟨U, 0, none⟩)) 48)).cell? ⟨U, 0, none⟩ = some (.string d) := (hb4.cell (by exact block_lt_of_cell hU)).trans hU
    clear hB3 hlog hb4 hU
    go_wp2_with fail
    refine (view_user _ U d hU4).mono ?_
    rintro e w5 ⟨rfl, hb5⟩
    have hB5 : Below w.heap.size w w5 := hB4.trans (hb5.mono hB4.size)
    clear hB4 hb5 hU4
    go_wp2_with fail
    refine (is_any w5 false true ⟨#[]⟩ d).mono ?_
    rintro e w6 ⟨rfl, rfl⟩
    go_wp2
    go_ret
    exact ⟨rfl, hB5⟩

set_option maxRecDepth 100000 in
set_option maxHeartbeats 2000000 in
theorem refn_tf (w : World) (rev : Int) (s d : ByteArray) :
    Calls Try.prog 4 #[.int .i64 rev, .bool true, .string s, .bool false, .string d, .slice none 0 0] w fun e w' => e = .returned (.bool true) ∧ Below w.heap.size w w' := by
  have hneq := fun w => run_neq_slice_nil_any (P := Try.prog) w 22 9 none 0 0 0 0 Try.underlying22
  go_enter Try.func4, Try.ntmps4
  go_wp2_with fail
  refine (bytes11 w rev true false s d none 0 0 (fun _ => ⟨#[]⟩) (fun i hi => absurd hi (Nat.not_lt_zero _))).mono ?_
  rintro e w' ⟨bo, rfl, hsm, rfl⟩
  cases bo
  · go_wp2
    go_ret
    exact ⟨rfl, Below.refl _ _⟩
  obtain ⟨⟨g1, g2, g3⟩, hsmall⟩ := hsm rfl
  clear hsm hsmall
  have t1 : decide ((1048576 : Int) < s.size) = false := decide_eq_false (by omega)
  have t2 : decide ((1048576 : Int) < d.size) = false := decide_eq_false (by omega)
  have t3 : decide ((1048576 : Int) < s.size + d.size) = false := decide_eq_false (by omega)
  go_wp2_with fail
  go_loop [14, 15, 88] (fun z _ c => z = .int .i64 ((s.size : Int) + d.size) ∧ c = .int .i64 0) (fun _ _ _ => 0)
  case atStart => exact ⟨rfl, rfl⟩
  case round =>
    obtain ⟨rfl, rfl⟩ := hrel
    clear t1 t2 t3 hneq
    go_wp2_with fail
    refine (new_nil w rev true false s d).mono ?_
    rintro e w3 ⟨L, t, u, rfl, hlog, hst, hsu, hB3⟩
    obtain ⟨T, rfl, hT⟩ := says_some hst
    obtain rfl : u = none := says_none hsu
    clear hst hsu
    go_wp2_with fail
    refine (changes_alone w3 L rev (some ⟨T, 0, none⟩) none _ _ hlog).mono ?_
    rintro e w4 ⟨rfl, rfl⟩
    have hb4 : Below w3.heap.size w3 (w3.alloc (.cells (recCells (some ⟨T, 0, none⟩) none) 48)) := (Below.refl _ _).alloc (Nat.le_refl _) _
    have hB4 : Below w.heap.size w (w3.alloc (.cells (recCells (some ⟨T, 0, none⟩) none) 48)) := hB3.trans (hb4.mono hB3.size)
    have hT4 : (w3.alloc (.cells (recCells (some ⟨T, 0, none⟩) none) 48)).cell? ⟨T, 0, none⟩ = some (.string s) := (hb4.cell (by exact block_lt_of_cell hT)).trans hT
    clear hB3 hlog hb4 hT
    go_wp2_with fail
    refine (view_tag _ T s hT4).mono ?_
    rintro e w5 ⟨rfl, hb5⟩
    have hB5 : Below w.heap.size w w5 := hB4.trans (hb5.mono hB4.size)
    clear hB4 hb5 hT4
    go_wp2_with fail
    refine (is_any w5 true false s ⟨#[]⟩).mono ?_
    rintro e w6 ⟨rfl, rfl⟩
    have hmk := make_one
    go_wp2_with fail
    refine (new_batch_ff _ rev ⟨#[]⟩ ⟨#[]⟩ ⟨w5.heap.size, 0, none⟩ 1 1 (fun _ => s) (by omega) strs_one).mono ?_
    rintro e w8 ⟨L2, t2, u2, A2, rfl, hlog2, hst2, hsu2, hrec2, hb8⟩
    have hB8 : Below w.heap.size w w8 := (hB5.alloc hB5.size _).trans (hb8.mono (hB5.alloc hB5.size _).size)
    obtain rfl : t2 = none := says_none hst2
    obtain rfl : u2 = none := says_none hsu2
    clear hB5 hb8 hst2 hsu2 hmk
    go_wp2_with fail
    refine (changes_one w8 L2 rev _ _ hlog2).mono ?_
    rintro e w9 ⟨rfl, rfl⟩
    have hr := hrec2 0 (by omega)
    obtain ⟨b, hAb, q0', hbs⟩ := hr.2
    have q0 : w8.cell? ⟨A2, 0, none⟩ = some (.pointer (some ⟨b, 0, none⟩)) := q0'
    have q1 : w8.cell? ⟨A2, 1, none⟩ = some (.pointer none) := by have := hr.1 1 (by omega) (by omega); simpa using this
    have q2 : w8.cell? ⟨A2, 2, none⟩ = some (.pointer none) := by have := hr.1 2 (by omega) (by omega); simpa using this
    have q3 : w8.cell? ⟨A2, 3, none⟩ = some (.pointer none) := by have := hr.1 3 (by omega) (by omega); simpa using this
    have q4 : w8.cell? ⟨A2, 4, none⟩ = some (.pointer none) := by have := hr.1 4 (by omega) (by omega); simpa using this
    have q5 : w8.cell? ⟨A2, 5, none⟩ = some (.pointer none) := by have := hr.1 5 (by omega) (by omega); simpa using this
    have q6 : w8.cell? ⟨A2, 6, none⟩ = some (.pointer none) := by have := hr.1 6 (by omega) (by omega); simpa using this
    have q7 : w8.cell? ⟨A2, 7, none⟩ = some (.pointer none) := by have := hr.1 7 (by omega) (by omega); simpa using this
    have q8 : w8.cell? ⟨A2, 8, none⟩ = some (.pointer none) := by have := hr.1 8 (by omega) (by omega); simpa using this
    have q9 : w8.cell? ⟨A2, 9, none⟩ = some (.pointer none) := by have := hr.1 9 (by omega) (by omega); simpa using this
    have q10 : w8.cell? ⟨A2, 10, none⟩ = some (.pointer none) := by have := hr.1 10 (by omega) (by omega); simpa using this
    have q11 : w8.cell? ⟨A2, 11, none⟩ = some (.pointer none) := by have := hr.1 11 (by omega) (by omega); simpa using this
    have q12 : w8.cell? ⟨A2, 12, none⟩ = some (.pointer none) := by have := hr.1 12 (by omega) (by omega); simpa using this
    have q13 : w8.cell? ⟨A2, 13, none⟩ = some (.pointer none) := by have := hr.1 13 (by omega) (by omega); simpa using this
    clear hlog2 hr q0' hrec2
    go_wp2_with fail
    refine (view_tag _ b s hbs).mono ?_
    rintro e wa ⟨rfl, hba⟩
    have hBa : Below w.heap.size w wa := hB8.trans (hba.mono hB8.size)
    clear q0 q1 q2 q3 q4 q5 q6 q7 q8 q9 q10 q11 q12 q13 hB8 hba hbs
    go_wp2_with fail
    refine (is_any wa true false s ⟨#[]⟩).mono ?_
    rintro e wb ⟨rfl, rfl⟩
    go_wp2
    go_ret
    exact ⟨rfl, hBa⟩

set_option maxRecDepth 100000 in
set_option maxHeartbeats 2000000 in
theorem refn_tt (w : World) (rev : Int) (s d : ByteArray) :
    Calls Try.prog 4 #[.int .i64 rev, .bool true, .string s, .bool true, .string d, .slice none 0 0] w fun e w' => e = .returned (.bool true) ∧ Below w.heap.size w w' := by
  have hneq := fun w => run_neq_slice_nil_any (P := Try.prog) w 22 9 none 0 0 0 0 Try.underlying22
  go_enter Try.func4, Try.ntmps4
  go_wp2_with fail
  refine (bytes11 w rev true true s d none 0 0 (fun _ => ⟨#[]⟩) (fun i hi => absurd hi (Nat.not_lt_zero _))).mono ?_
  rintro e w' ⟨bo, rfl, hsm, rfl⟩
  cases bo
  · go_wp2
    go_ret
    exact ⟨rfl, Below.refl _ _⟩
  obtain ⟨⟨g1, g2, g3⟩, hsmall⟩ := hsm rfl
  clear hsm hsmall
  have t1 : decide ((1048576 : Int) < s.size) = false := decide_eq_false (by omega)
  have t2 : decide ((1048576 : Int) < d.size) = false := decide_eq_false (by omega)
  have t3 : decide ((1048576 : Int) < s.size + d.size) = false := decide_eq_false (by omega)
  go_wp2_with fail
  go_loop [14, 15, 88] (fun z _ c => z = .int .i64 ((s.size : Int) + d.size) ∧ c = .int .i64 0) (fun _ _ _ => 0)
  case atStart => exact ⟨rfl, rfl⟩
  case round =>
    obtain ⟨rfl, rfl⟩ := hrel
    clear t1 t2 t3 hneq
    go_wp2_with fail
    refine (new_nil w rev true true s d).mono ?_
    rintro e w3 ⟨L, t, u, rfl, hlog, hst, hsu, hB3⟩
    obtain ⟨T, rfl, hT⟩ := says_some hst
    obtain ⟨U, rfl, hU⟩ := says_some hsu
    clear hst hsu
    go_wp2_with fail
    refine (changes_alone w3 L rev (some ⟨T, 0, none⟩) (some ⟨U, 0, none⟩) _ _ hlog).mono ?_
    rintro e w4 ⟨rfl, rfl⟩
    have hb4 : Below w3.heap.size w3 (w3.alloc (.cells (recCells (some ⟨T, 0, none⟩) (some ⟨U, 0, none⟩)) 48)) := (Below.refl _ _).alloc (Nat.le_refl _) _
    have hB4 : Below w.heap.size w (w3.alloc (.cells (recCells (some ⟨T, 0, none⟩) (some ⟨U, 0, none⟩)) 48)) := hB3.trans (hb4.mono hB3.size)
    have hT4 : (w3.alloc (.cells (recCells (some ⟨T, 0, none⟩) (some ⟨U, 0, none⟩)) 48)).cell? ⟨T, 0, none⟩ = some (.string s) := (hb4.cell (by exact block_lt_of_cell hT)).trans hT
    have hU4 : (w3.alloc (.cells (recCells (some ⟨T, 0, none⟩) (some ⟨U, 0, none⟩)) 48)).cell? ⟨U, 0, none⟩ = some (.string d) := (hb4.cell (by exact block_lt_of_cell hU)).trans hU
    clear hB3 hlog hb4 hT hU
    go_wp2_with fail
    refine (view_both _ T U s d hT4 hU4).mono ?_
    rintro e w5 ⟨rfl, hb5⟩
    have hB5 : Below w.heap.size w w5 := hB4.trans (hb5.mono hB4.size)
    clear hB4 hb5 hT4 hU4
    go_wp2_with fail
    refine (is_any w5 true true s d).mono ?_
    rintro e w6 ⟨rfl, rfl⟩
    go_wp2
    go_ret
    exact ⟨rfl, hB5⟩

end Go.Proofs.Qxb6614307a
