/-
  Seat b6614307a: the walk of FnLogRecordRefusesChangeBesideBatch: a batch that is not empty; no change beside it, or a user beside it.
-/
import Derived.Test.Qxb6614307aAlone
import Derived.Test.Qxb6614307aBytes11
namespace Go.Proofs.Qxb6614307a
open Go.RowKit
set_option linter.unusedVariables false

set_option maxRecDepth 100000 in
set_option maxHeartbeats 2000000 in
theorem ref_ff (w : World) (rev : Int) (s d : ByteArray) (bx : Addr) (cap : Nat) (m : Nat) (Tg : Nat → ByteArray) (hn : m + 1 ≤ 65536) (hS : Strs w (some bx) (m + 1) Tg) :
    Calls Try.prog 4 #[.int .i64 rev, .bool false, .string s, .bool false, .string d, .slice (some bx) (m + 1) cap] w fun e w' => e = .returned (.bool true) ∧ Below w.heap.size w w' := by
  have hneq := fun w => run_neq_slice_nil_any (P := Try.prog) w 22 9 (some bx) (m + 1) cap 0 0 Try.underlying22
  obtain ⟨i0, hi, hz0, hz1, hz2⟩ := info_parts Try.info9
  have hb2 : i0.bytes * (m + 1) ≤ 281474976710656 := by rw [hz2]; omega
  have tn : decide (65536 < (m : Int) + 1) = false := decide_eq_false (by omega)
  go_enter Try.func4, Try.ntmps4
  go_wp2_with fail
  refine (bytes11 w rev false false s d (some bx) (m + 1) cap Tg hS).mono ?_
  rintro e w' ⟨bo, rfl, hsm, rfl⟩
  cases bo
  · go_wp2
    go_ret
    exact ⟨rfl, Below.refl _ _⟩
  obtain ⟨⟨g1, g2, g3⟩, hsmall⟩ := hsm rfl
  clear hsm
  have t1 : decide ((1048576 : Int) < s.size) = false := decide_eq_false (by omega)
  have t2 : decide ((1048576 : Int) < d.size) = false := decide_eq_false (by omega)
  have t3 : decide ((1048576 : Int) < s.size + d.size) = false := decide_eq_false (by omega)
  go_wp2_with (at_make; refine wpList_make_full _ rfl _ _ 22 rfl w.heap.size 9 i0 (.string ⟨#[]⟩) 1 Try.underlying22 hi hz0 hz1 _ _ _ _ (m + 1) rfl rfl (by omega) (by omega) hb2 (by unfold maxLen; omega) (Nat.le_refl _) ?_)
  intro w1 hown hgrow
  have hblk := block_of_row hown
  have hB1 : Below w.heap.size w w1 := (Below.refl _ _).grown hgrow (Nat.le_refl _) (fun k h => by cases h)
  have HL : Hid ((tags Tg (m + 1)).length = Nat.min (m + 1) (m + 1)) := by show _ = _; rw [tags_length]; exact (Nat.min_self _).symm
  have HP : Hid _ := copy_facts (w := w) w.heap.size (hS.later hB1)
  have HF : Hid (0 + (tags Tg (m + 1)).length ≤ ((madeCells #[Value.string ⟨#[]⟩] (m + 1)).toList).length) := by show _ ≤ _; rw [tags_length, toList_madeCells_one]; simp
  have HK : Hid _ := hblk
  have hl1 : w.heap.size < w1.heap.size := (hown.lt _ rfl).2
  clear hblk hown hgrow hb2
  go_wp2_with (refine wpList_copy_splice rfl (.tmp 75) (.tmp 76) 22 22 rfl 9 Try.underlying22 Try.size9 _ _ _ _ _ _ rfl rfl w.heap.size 0 _ 9 HK.out (tags Tg (m + 1)) HL.out HP.out HF.out (tags_one _ _) w.heap.size w1 (Below.refl _ _) (Nat.le_refl _) ?_)
  intro w2 hrow hB2
  have hM2 : Mine w w2 w.heap.size (m + 1) Tg := mine_copied (Nat.lt_of_lt_of_le hl1 hB2.size) (hB1.trans hB2) hrow.out
  clear hrow HL HP HF HK hB1 hB2 hl1 hS hneq
  go_wp2_with fail
  go_loop [14, 15, 88] (fun z _ c => ∃ (k : Nat) (q : Int), k ≤ (m + 1) ∧ c = .int .i64 k ∧ z = .int .i64 q ∧ 0 ≤ q ∧ q ≤ 1048576) (fun _ _ c => (m + 1) - (intOf c).toNat)
  case atStart => exact ⟨0, _, Nat.zero_le _, rfl, rfl, by omega, by omega⟩
  case round =>
    obtain ⟨k, q, hk, rfl, rfl, hq0, hq1⟩ := hrel
    by_cases hlt : k < m + 1
    · have hlt' : (k : Int) < (m : Int) + 1 := by omega
      have ck := hM2.cell k hlt
      have hsk := hsmall k hlt
      by_cases h2 : 1048576 < q + (16 + ((Tg k).size : Int))
      · go_wp2
        go_ret
        exact ⟨rfl, hM2.below⟩
      · go_wp2
        go_round
        case rel => exact ⟨k + 1, _, by omega, by go_num, rfl, by omega, by omega⟩
        case measure => simp [intOf]; omega
    · obtain rfl : k = m + 1 := by omega
      clear t1 t2 t3 tn hsmall hlt hk
      have hm0 : ((m : Int) + 1 == 0) = false := beq_eq_false_iff_ne.2 (by omega)
      go_wp2_with fail
      refine (new_batch_ff w2 rev s d ⟨w.heap.size, 0, none⟩ (m + 1) (m + 1) Tg (by omega) hM2.strs).mono ?_
      rintro e w3 ⟨L, t, u, A, rfl, hlog, hst, hsu, hrec, hb3⟩
      have hM3 := hM2.later hb3
      obtain rfl : t = none := says_none hst
      obtain rfl : u = none := says_none hsu
      clear hM2 hb3 hst hsu
      go_wp2_with fail
      refine (changes_batch w3 L rev _ m _ hlog).mono ?_
      rintro e w4 ⟨rfl, rfl⟩
      clear hlog
      go_wp2_with fail
      go_loopw [43, 44, 45, 46, 47, 48, 271] (fun _ _ _ _ _ _ c wr => ∃ k : Nat, k ≤ m + 1 ∧ c = .int .i64 k ∧ Mine w wr w.heap.size (m + 1) Tg ∧ ∀ i, i < m + 1 → RecAt wr A i (Tg i)) (fun _ _ _ _ _ _ c _ => m + 1 - (intOf c).toNat)
      case atStart => exact ⟨0, Nat.zero_le _, rfl, hM3, hrec⟩
      case round =>
        clear hM3 hrec
        obtain ⟨k, hk2, rfl, hM, hR⟩ := hrel
        by_cases hlk : k < m + 1
        · have hlk' : (k : Int) < (m : Int) + 1 := by omega
          have hr := hR k hlk
          obtain ⟨b, hAb, q0, hbs⟩ := hr.2
          have q1 : wr.cell? ⟨A, k * 14 + 1, none⟩ = some (.pointer none) := hr.1 1 (by omega) (by omega)
          have q2 : wr.cell? ⟨A, k * 14 + 2, none⟩ = some (.pointer none) := hr.1 2 (by omega) (by omega)
          have q3 : wr.cell? ⟨A, k * 14 + 3, none⟩ = some (.pointer none) := hr.1 3 (by omega) (by omega)
          have q4 : wr.cell? ⟨A, k * 14 + 4, none⟩ = some (.pointer none) := hr.1 4 (by omega) (by omega)
          have q5 : wr.cell? ⟨A, k * 14 + 5, none⟩ = some (.pointer none) := hr.1 5 (by omega) (by omega)
          have q6 : wr.cell? ⟨A, k * 14 + 6, none⟩ = some (.pointer none) := hr.1 6 (by omega) (by omega)
          have q7 : wr.cell? ⟨A, k * 14 + 7, none⟩ = some (.pointer none) := hr.1 7 (by omega) (by omega)
          have q8 : wr.cell? ⟨A, k * 14 + 8, none⟩ = some (.pointer none) := hr.1 8 (by omega) (by omega)
          have q9 : wr.cell? ⟨A, k * 14 + 9, none⟩ = some (.pointer none) := hr.1 9 (by omega) (by omega)
          have q10 : wr.cell? ⟨A, k * 14 + 10, none⟩ = some (.pointer none) := hr.1 10 (by omega) (by omega)
          have q11 : wr.cell? ⟨A, k * 14 + 11, none⟩ = some (.pointer none) := hr.1 11 (by omega) (by omega)
          have q12 : wr.cell? ⟨A, k * 14 + 12, none⟩ = some (.pointer none) := hr.1 12 (by omega) (by omega)
          have q13 : wr.cell? ⟨A, k * 14 + 13, none⟩ = some (.pointer none) := hr.1 13 (by omega) (by omega)
          clear hr
          go_wp2_with fail
          refine (view_tag _ b (Tg k) hbs).mono ?_
          rintro e w7 ⟨rfl, hb7⟩
          have hM7 := hM.later hb7
          have hR7 := fun i hi => (hR i hi).later hb7
          have ck := hM7.cell k hlk
          clear q0 q1 q2 q3 q4 q5 q6 q7 q8 q9 q10 q11 q12 q13 hM hR hb7 hbs
          go_wp2_with fail
          refine (is_any w7 true false (Tg k) ⟨#[]⟩).mono ?_
          rintro e w8 ⟨rfl, rfl⟩
          clear ck
          go_wp2
          go_roundw
          case rel => exact ⟨k + 1, by omega, by go_num, hM7, hR7⟩
          case measure => simp [intOf]; omega
        · go_wp2
          go_ret
          exact ⟨rfl, hM.below⟩

set_option maxRecDepth 100000 in
set_option maxHeartbeats 2000000 in
theorem ref_ft (w : World) (rev : Int) (s d : ByteArray) (bx : Addr) (cap : Nat) (m : Nat) (Tg : Nat → ByteArray) (hn : m + 1 ≤ 65536) (hS : Strs w (some bx) (m + 1) Tg) :
    Calls Try.prog 4 #[.int .i64 rev, .bool false, .string s, .bool true, .string d, .slice (some bx) (m + 1) cap] w fun e w' => e = .returned (.bool true) ∧ Below w.heap.size w w' := by
  have hneq := fun w => run_neq_slice_nil_any (P := Try.prog) w 22 9 (some bx) (m + 1) cap 0 0 Try.underlying22
  obtain ⟨i0, hi, hz0, hz1, hz2⟩ := info_parts Try.info9
  have hb2 : i0.bytes * (m + 1) ≤ 281474976710656 := by rw [hz2]; omega
  have tn : decide (65536 < (m : Int) + 1) = false := decide_eq_false (by omega)
  go_enter Try.func4, Try.ntmps4
  go_wp2_with fail
  refine (bytes11 w rev false true s d (some bx) (m + 1) cap Tg hS).mono ?_
  rintro e w' ⟨bo, rfl, hsm, rfl⟩
  cases bo
  · go_wp2
    go_ret
    exact ⟨rfl, Below.refl _ _⟩
  obtain ⟨⟨g1, g2, g3⟩, hsmall⟩ := hsm rfl
  clear hsm
  have t1 : decide ((1048576 : Int) < s.size) = false := decide_eq_false (by omega)
  have t2 : decide ((1048576 : Int) < d.size) = false := decide_eq_false (by omega)
  have t3 : decide ((1048576 : Int) < s.size + d.size) = false := decide_eq_false (by omega)
  go_wp2_with (at_make; refine wpList_make_full _ rfl _ _ 22 rfl w.heap.size 9 i0 (.string ⟨#[]⟩) 1 Try.underlying22 hi hz0 hz1 _ _ _ _ (m + 1) rfl rfl (by omega) (by omega) hb2 (by unfold maxLen; omega) (Nat.le_refl _) ?_)
  intro w1 hown hgrow
  have hblk := block_of_row hown
  have hB1 : Below w.heap.size w w1 := (Below.refl _ _).grown hgrow (Nat.le_refl _) (fun k h => by cases h)
  have HL : Hid ((tags Tg (m + 1)).length = Nat.min (m + 1) (m + 1)) := by show _ = _; rw [tags_length]; exact (Nat.min_self _).symm
  have HP : Hid _ := copy_facts (w := w) w.heap.size (hS.later hB1)
  have HF : Hid (0 + (tags Tg (m + 1)).length ≤ ((madeCells #[Value.string ⟨#[]⟩] (m + 1)).toList).length) := by show _ ≤ _; rw [tags_length, toList_madeCells_one]; simp
  have HK : Hid _ := hblk
  have hl1 : w.heap.size < w1.heap.size := (hown.lt _ rfl).2
  clear hblk hown hgrow hb2
  go_wp2_with (refine wpList_copy_splice rfl (.tmp 75) (.tmp 76) 22 22 rfl 9 Try.underlying22 Try.size9 _ _ _ _ _ _ rfl rfl w.heap.size 0 _ 9 HK.out (tags Tg (m + 1)) HL.out HP.out HF.out (tags_one _ _) w.heap.size w1 (Below.refl _ _) (Nat.le_refl _) ?_)
  intro w2 hrow hB2
  have hM2 : Mine w w2 w.heap.size (m + 1) Tg := mine_copied (Nat.lt_of_lt_of_le hl1 hB2.size) (hB1.trans hB2) hrow.out
  clear hrow HL HP HF HK hB1 hB2 hl1 hS hneq
  go_wp2_with fail
  go_loop [14, 15, 88] (fun z _ c => ∃ (k : Nat) (q : Int), k ≤ (m + 1) ∧ c = .int .i64 k ∧ z = .int .i64 q ∧ 0 ≤ q ∧ q ≤ 1048576) (fun _ _ c => (m + 1) - (intOf c).toNat)
  case atStart => exact ⟨0, _, Nat.zero_le _, rfl, rfl, by omega, by omega⟩
  case round =>
    obtain ⟨k, q, hk, rfl, rfl, hq0, hq1⟩ := hrel
    by_cases hlt : k < m + 1
    · have hlt' : (k : Int) < (m : Int) + 1 := by omega
      have ck := hM2.cell k hlt
      have hsk := hsmall k hlt
      by_cases h2 : 1048576 < q + (16 + ((Tg k).size : Int))
      · go_wp2
        go_ret
        exact ⟨rfl, hM2.below⟩
      · go_wp2
        go_round
        case rel => exact ⟨k + 1, _, by omega, by go_num, rfl, by omega, by omega⟩
        case measure => simp [intOf]; omega
    · obtain rfl : k = m + 1 := by omega
      clear t1 t2 t3 tn hsmall hlt hk
      have hm0 : ((m : Int) + 1 == 0) = false := beq_eq_false_iff_ne.2 (by omega)
      go_wp2_with fail
      refine (new_batch_ft w2 rev s d ⟨w.heap.size, 0, none⟩ (m + 1) (m + 1) Tg (by omega) hM2.strs).mono ?_
      rintro e w3 ⟨L, t, u, A, rfl, hlog, hst, hsu, hrec, hb3⟩
      have hM3 := hM2.later hb3
      obtain rfl : t = none := says_none hst
      obtain ⟨U, rfl, hU⟩ := says_some hsu
      clear hM2 hb3 hst hsu hrec
      go_wp2_with fail
      refine (changes_user w3 L rev ⟨U, 0, none⟩ _ m _ hlog).mono ?_
      rintro e w4 ⟨⟨E, rfl⟩, hb4⟩
      have hM4 := hM3.later hb4
      clear hlog hM3 hb4
      go_wp2
      go_ret
      exact ⟨rfl, hM4.below⟩

set_option maxRecDepth 100000 in
set_option maxHeartbeats 2000000 in
theorem ref_tt (w : World) (rev : Int) (s d : ByteArray) (bx : Addr) (cap : Nat) (m : Nat) (Tg : Nat → ByteArray) (hn : m + 1 ≤ 65536) (hS : Strs w (some bx) (m + 1) Tg) :
    Calls Try.prog 4 #[.int .i64 rev, .bool true, .string s, .bool true, .string d, .slice (some bx) (m + 1) cap] w fun e w' => e = .returned (.bool true) ∧ Below w.heap.size w w' := by
  have hneq := fun w => run_neq_slice_nil_any (P := Try.prog) w 22 9 (some bx) (m + 1) cap 0 0 Try.underlying22
  obtain ⟨i0, hi, hz0, hz1, hz2⟩ := info_parts Try.info9
  have hb2 : i0.bytes * (m + 1) ≤ 281474976710656 := by rw [hz2]; omega
  have tn : decide (65536 < (m : Int) + 1) = false := decide_eq_false (by omega)
  go_enter Try.func4, Try.ntmps4
  go_wp2_with fail
  refine (bytes11 w rev true true s d (some bx) (m + 1) cap Tg hS).mono ?_
  rintro e w' ⟨bo, rfl, hsm, rfl⟩
  cases bo
  · go_wp2
    go_ret
    exact ⟨rfl, Below.refl _ _⟩
  obtain ⟨⟨g1, g2, g3⟩, hsmall⟩ := hsm rfl
  clear hsm
  have t1 : decide ((1048576 : Int) < s.size) = false := decide_eq_false (by omega)
  have t2 : decide ((1048576 : Int) < d.size) = false := decide_eq_false (by omega)
  have t3 : decide ((1048576 : Int) < s.size + d.size) = false := decide_eq_false (by omega)
  go_wp2_with (at_make; refine wpList_make_full _ rfl _ _ 22 rfl w.heap.size 9 i0 (.string ⟨#[]⟩) 1 Try.underlying22 hi hz0 hz1 _ _ _ _ (m + 1) rfl rfl (by omega) (by omega) hb2 (by unfold maxLen; omega) (Nat.le_refl _) ?_)
  intro w1 hown hgrow
  have hblk := block_of_row hown
  have hB1 : Below w.heap.size w w1 := (Below.refl _ _).grown hgrow (Nat.le_refl _) (fun k h => by cases h)
  have HL : Hid ((tags Tg (m + 1)).length = Nat.min (m + 1) (m + 1)) := by show _ = _; rw [tags_length]; exact (Nat.min_self _).symm
  have HP : Hid _ := copy_facts (w := w) w.heap.size (hS.later hB1)
  have HF : Hid (0 + (tags Tg (m + 1)).length ≤ ((madeCells #[Value.string ⟨#[]⟩] (m + 1)).toList).length) := by show _ ≤ _; rw [tags_length, toList_madeCells_one]; simp
  have HK : Hid _ := hblk
  have hl1 : w.heap.size < w1.heap.size := (hown.lt _ rfl).2
  clear hblk hown hgrow hb2
  go_wp2_with (refine wpList_copy_splice rfl (.tmp 75) (.tmp 76) 22 22 rfl 9 Try.underlying22 Try.size9 _ _ _ _ _ _ rfl rfl w.heap.size 0 _ 9 HK.out (tags Tg (m + 1)) HL.out HP.out HF.out (tags_one _ _) w.heap.size w1 (Below.refl _ _) (Nat.le_refl _) ?_)
  intro w2 hrow hB2
  have hM2 : Mine w w2 w.heap.size (m + 1) Tg := mine_copied (Nat.lt_of_lt_of_le hl1 hB2.size) (hB1.trans hB2) hrow.out
  clear hrow HL HP HF HK hB1 hB2 hl1 hS hneq
  go_wp2_with fail
  go_loop [14, 15, 88] (fun z _ c => ∃ (k : Nat) (q : Int), k ≤ (m + 1) ∧ c = .int .i64 k ∧ z = .int .i64 q ∧ 0 ≤ q ∧ q ≤ 1048576) (fun _ _ c => (m + 1) - (intOf c).toNat)
  case atStart => exact ⟨0, _, Nat.zero_le _, rfl, rfl, by omega, by omega⟩
  case round =>
    obtain ⟨k, q, hk, rfl, rfl, hq0, hq1⟩ := hrel
    by_cases hlt : k < m + 1
    · have hlt' : (k : Int) < (m : Int) + 1 := by omega
      have ck := hM2.cell k hlt
      have hsk := hsmall k hlt
      by_cases h2 : 1048576 < q + (16 + ((Tg k).size : Int))
      · go_wp2
        go_ret
        exact ⟨rfl, hM2.below⟩
      · go_wp2
        go_round
        case rel => exact ⟨k + 1, _, by omega, by go_num, rfl, by omega, by omega⟩
        case measure => simp [intOf]; omega
    · obtain rfl : k = m + 1 := by omega
      clear t1 t2 t3 tn hsmall hlt hk
      have hm0 : ((m : Int) + 1 == 0) = false := beq_eq_false_iff_ne.2 (by omega)
      go_wp2_with fail
      refine (new_batch_tt w2 rev s d ⟨w.heap.size, 0, none⟩ (m + 1) (m + 1) Tg (by omega) hM2.strs).mono ?_
      rintro e w3 ⟨L, t, u, A, rfl, hlog, hst, hsu, hrec, hb3⟩
      have hM3 := hM2.later hb3
      obtain ⟨T, rfl, hT⟩ := says_some hst
      obtain ⟨U, rfl, hU⟩ := says_some hsu
      clear hM2 hb3 hst hsu hrec
      go_wp2_with fail
      refine (changes_tag w3 L rev ⟨T, 0, none⟩ _ _ m _ hlog).mono ?_
      rintro e w4 ⟨⟨E, rfl⟩, hb4⟩
      have hM4 := hM3.later hb4
      clear hlog hM3 hb4
      go_wp2
      go_ret
      exact ⟨rfl, hM4.below⟩

end Go.Proofs.Qxb6614307a
