/-
  Seat b6614307a: the walk of FnLogRecordRefusesChangeBesideBatch: a batch that is not empty; a tag beside it.
-/
import Derived.Test.Qxb6614307aAlone
import Derived.Test.Qxb6614307aBytes11
namespace Go.Proofs.Qxb6614307a
open Go.RowKit
set_option linter.unusedVariables false

theorem one_new (w : World) (v : Value) (t : TypeId) : ∀ j u, [v][j]? = some u → (w.alloc (.cells #[v] t)).cell? ((⟨w.heap.size, 0, none⟩ : Addr).add j) = some u := by
  intro j u hj
  match j, hj with
  | 0, hj => simp at hj; subst hj; simp [Addr.add]

/-- The tags with s ahead of them. -/
def joined (s : ByteArray) (Tg : Nat → ByteArray) (i : Nat) : ByteArray := if i = 0 then s else Tg (i - 1)

theorem joined_get (s : ByteArray) (Tg : Nat → ByteArray) (n i : Nat) (h : i < n + 1) : ([Value.string s] ++ tags Tg n)[i]? = some (.string (joined s Tg i)) := by
  cases i with
  | zero => rfl
  | succ i =>
    have e : ([Value.string s] ++ tags Tg n)[i + 1]? = (tags Tg n)[i]? := by simp
    rw [e, tags_get Tg n i (by omega)]; rfl

theorem tags_src {w wr : World} {N n : Nat} {Tg : Nat → ByteArray} (h : Mine w wr N n Tg) : ∀ j u, (tags Tg n)[j]? = some u → wr.cell? ((⟨N, 0, none⟩ : Addr).add j) = some u := by
  intro j u hj
  obtain ⟨h1, rfl⟩ := tags_inv hj
  rw [Addr.add_lit, Nat.zero_add]; exact h.cell j h1

theorem changes_len (w : World) (L : Nat) (rev : Int) (a : Option Addr) (N n c : Nat) (hN : N = n + 1) (h : Log w L rev none none (.slice a N c)) :
    Calls Try.prog 8 #[.pointer (some ⟨L, 0, none⟩)] w fun e w' => e = .returned (.tuple #[.slice a N c, .nilIface]) ∧ w = w' := by
  subst hN
  exact changes_batch w L rev a n c h

set_option maxRecDepth 100000 in
set_option maxHeartbeats 2000000 in
theorem ref_tf (w : World) (rev : Int) (s d : ByteArray) (bx : Addr) (cap : Nat) (m : Nat) (Tg : Nat → ByteArray) (hn : m + 1 ≤ 65536) (hS : Strs w (some bx) (m + 1) Tg) :
    Calls Try.prog 4 #[.int .i64 rev, .bool true, .string s, .bool false, .string d, .slice (some bx) (m + 1) cap] w fun e w' => e = .returned (.bool true) ∧ Below w.heap.size w w' := by
  have hneq := fun w => run_neq_slice_nil_any (P := Try.prog) w 22 9 (some bx) (m + 1) cap 0 0 Try.underlying22
  obtain ⟨i0, hi, hz0, hz1, hz2⟩ := info_parts Try.info9
  have hb2 : i0.bytes * (m + 1) ≤ 281474976710656 := by rw [hz2]; omega
  have tn : decide (65536 < (m : Int) + 1) = false := decide_eq_false (by omega)
  go_enter Try.func4, Try.ntmps4
  go_wp2_with fail
  refine (bytes11 w rev true false s d (some bx) (m + 1) cap Tg hS).mono ?_
  rintro e w' ⟨bo, rfl, hsm, rfl⟩
  cases bo
  · go_wp2
    go_ret
    exact ⟨rfl, Below.refl _ _⟩
  obtain ⟨⟨g1, g2, g3⟩, hsmall⟩ := hsm rfl
  clear hsm
  have t1 : decide ((1048576 : Int) < s.size) = false := decide_eq_false (by omega)
  have t2 : decide ((1048576 : Int) < d.size) = false := decide_eq_false (by omega)
  have t3 : decide ((1048576 : Int) < s.size + d.size) = false := decide_eq_false (by omega)
  go_wp2_with (at_make; refine wpList_make_full _ rfl _ _ 22 rfl w.heap.size 9 i0 (.string ⟨#[]⟩) 1 Try.underlying22 hi hz0 hz1 _ _ _ _ (m + 1) rfl rfl (by omega) (by omega) hb2 (by unfold maxLen; omega) (Nat.le_refl _) ?_)
  intro w1 hown hgrow
  have hblk := block_of_row hown
  have hB1 : Below w.heap.size w w1 := (Below.refl _ _).grown hgrow (Nat.le_refl _) (fun k h => by cases h)
  have HL : Hid ((tags Tg (m + 1)).length = Nat.min (m + 1) (m + 1)) := by show _ = _; rw [tags_length]; exact (Nat.min_self _).symm
  have HP : Hid _ := copy_facts (w := w) w.heap.size (hS.later hB1)
  have HF : Hid (0 + (tags Tg (m + 1)).length ≤ ((madeCells #[Value.string ⟨#[]⟩] (m + 1)).toList).length) := by show _ ≤ _; rw [tags_length, toList_madeCells_one]; simp
  have HK : Hid _ := hblk
  have hl1 : w.heap.size < w1.heap.size := (hown.lt _ rfl).2
  clear hblk hown hgrow hb2
  go_wp2_with (refine wpList_copy_splice rfl (.tmp 75) (.tmp 76) 22 22 rfl 9 Try.underlying22 Try.size9 _ _ _ _ _ _ rfl rfl w.heap.size 0 _ 9 HK.out (tags Tg (m + 1)) HL.out HP.out HF.out (tags_one _ _) w.heap.size w1 (Below.refl _ _) (Nat.le_refl _) ?_)
  intro w2 hrow hB2
  have hM2 : Mine w w2 w.heap.size (m + 1) Tg := mine_copied (Nat.lt_of_lt_of_le hl1 hB2.size) (hB1.trans hB2) hrow.out
  clear hrow HL HP HF HK hB1 hB2 hl1 hS hneq
  go_wp2_with fail
  go_loop [14, 15, 88] (fun z _ c => ∃ (k : Nat) (q : Int), k ≤ (m + 1) ∧ c = .int .i64 k ∧ z = .int .i64 q ∧ 0 ≤ q ∧ q ≤ 1048576) (fun _ _ c => (m + 1) - (intOf c).toNat)
  case atStart => exact ⟨0, _, Nat.zero_le _, rfl, rfl, by omega, by omega⟩
  case round =>
    obtain ⟨k, q, hk, rfl, rfl, hq0, hq1⟩ := hrel
    by_cases hlt : k < m + 1
    · have hlt' : (k : Int) < (m : Int) + 1 := by omega
      have ck := hM2.cell k hlt
      have hsk := hsmall k hlt
      by_cases h2 : 1048576 < q + (16 + ((Tg k).size : Int))
      · go_wp2
        go_ret
        exact ⟨rfl, hM2.below⟩
      · go_wp2
        go_round
        case rel => exact ⟨k + 1, _, by omega, by go_num, rfl, by omega, by omega⟩
        case measure => simp [intOf]; omega
    · obtain rfl : k = m + 1 := by omega
      clear t1 t2 t3 tn hsmall hlt hk
      have hm0 : ((m : Int) + 1 == 0) = false := beq_eq_false_iff_ne.2 (by omega)
      go_wp2_with fail
      refine (new_batch_tf w2 rev s d ⟨w.heap.size, 0, none⟩ (m + 1) (m + 1) Tg (by omega) hM2.strs).mono ?_
      rintro e w3 ⟨L, t, u, A, rfl, hlog, hst, hsu, hrec, hb3⟩
      have hM3 := hM2.later hb3
      obtain ⟨T, rfl, hT⟩ := says_some hst
      obtain rfl : u = none := says_none hsu
      clear hM2 hb3 hst hsu hrec
      go_wp2_with fail
      refine (changes_tag w3 L rev ⟨T, 0, none⟩ _ _ m _ hlog).mono ?_
      rintro e w4 ⟨⟨E, rfl⟩, hb4⟩
      have hM4 := hM3.later hb4
      clear hlog hM3 hb4
      have hb3 : i0.bytes * (m + 1 + 1) ≤ 281474976710656 := by rw [hz2]; omega
      clear hT
      go_wp2_with (at_make; refine wpList_make_own _ rfl _ _ 22 rfl w4.heap.size 9 i0 (.string ⟨#[]⟩) 1 Try.underlying22 hi hz0 hz1 _ _ _ (m + 1 + 1) rfl rfl (by omega) hb3 (by unfold maxLen; omega) (Nat.le_refl _) ?_)
      intro w5 hown5 hgrow5
      have hb5 : Below w4.heap.size w4 w5 := (Below.refl _ _).grown hgrow5 (Nat.le_refl _) (fun k h => by cases h)
      clear hgrow5 hb3
      go_wp2_with (at_builtin; refine wpList_append_fits _ rfl (.tmp 209) (.tmp 211) 22 rfl w4.heap.size 9 i0 1 Try.underlying22 hi hz1 w4.heap.size 0 (m + 1 + 1) _ rfl (hown5.alloc _) ⟨w5.heap.size, 0, none⟩ 1 1 [.string s] rfl rfl (one_new _ _ _) (by simp [Value.oneCell']) (by omega) ?_)
      intro w6 hown6 hgrow6
      try simp only [Nat.zero_add, List.nil_append] at hown6
      have hb6 : Below w4.heap.size w4 w6 := (hb5.alloc hb5.size _).grown hgrow6 (by have := hb5.size; simp; omega) (fun k h => by simp at h; omega)
      have hM6 := hM4.later hb6
      have hsrc := tags_src hM6
      have HS : Hid _ := hsrc
      clear hgrow6 hb5 hown5 hsrc hM6
      go_wp2_with (at_builtin; refine wpList_append_fits _ rfl (.tmp 213) (.tmp 214) 22 rfl w4.heap.size 9 i0 1 Try.underlying22 hi hz1 w4.heap.size 1 (m + 1 + 1) _ rfl hown6 ⟨w.heap.size, 0, none⟩ (m + 1) (m + 1) (tags Tg (m + 1)) rfl (by rw [tags_length, Nat.mul_one]) HS.out (tags_one _ _) (by omega) ?_)
      intro w7 hown7 hgrow7
      have hb7 : Below w4.heap.size w4 w7 := hb6.grown hgrow7 hb6.size (fun k h => by simp at h; omega)
      have hB7 : Below w.heap.size w w7 := (hM4.later hb7).below
      have hJ7 : Mine w w7 w4.heap.size (1 + (m + 1)) (joined s Tg) := ⟨fun i hi => by rw [hown7.cellAt i (by omega)]; exact joined_get s Tg (m + 1) i (by omega), hB7, (hown7.lt _ rfl).2, hM4.below.size⟩
      clear hown7 hown6 hgrow7 hb6 hb7 HS hM4 hi hz0 hz1 hz2 hB7
      have hJa : 1 + (m + 1) ≤ 65537 := by omega
      have hJb : 0 < 1 + (m + 1) := by omega
      go_wp2_with fail
      generalize 1 + (m + 1) = J at *
      refine (new_batch_ff w7 rev ⟨#[]⟩ ⟨#[]⟩ ⟨w4.heap.size, 0, none⟩ J _ (joined s Tg) (by omega) hJ7.strs).mono ?_
      rintro e w8 ⟨L2, t2, u2, A2, rfl, hlog2, hst2, hsu2, hrec2, hb8⟩
      have hJ8 := hJ7.later hb8
      obtain rfl : t2 = none := says_none hst2
      obtain rfl : u2 = none := says_none hsu2
      clear hJ7 hb8 hst2 hsu2
      go_wp2_with fail
      refine (changes_len w8 L2 rev _ J (J - 1) _ (by omega) hlog2).mono ?_
      rintro e w9 ⟨rfl, rfl⟩
      clear hlog2
      go_wp2_with fail
      go_loopw [37, 38, 39, 40, 41, 42, 234] (fun _ _ _ _ _ _ c wr => ∃ k : Nat, k ≤ J ∧ c = .int .i64 k ∧ Mine w wr w4.heap.size J (joined s Tg) ∧ ∀ i, i < J → RecAt wr A2 i (joined s Tg i)) (fun _ _ _ _ _ _ c _ => J - (intOf c).toNat)
      case atStart => exact ⟨0, Nat.zero_le _, rfl, hJ8, hrec2⟩
      case round =>
        clear hJ8 hrec2
        obtain ⟨k, hk2, rfl, hM, hR⟩ := hrel
        by_cases hlk : k < J
        · have hlk' : (k : Int) < (J : Int) := by omega
          have hr := hR k hlk
          obtain ⟨b, hAb, q0, hbs⟩ := hr.2
          have q1 : wr.cell? ⟨A2, k * 14 + 1, none⟩ = some (.pointer none) := hr.1 1 (by omega) (by omega)
          have q2 : wr.cell? ⟨A2, k * 14 + 2, none⟩ = some (.pointer none) := hr.1 2 (by omega) (by omega)
          have q3 : wr.cell? ⟨A2, k * 14 + 3, none⟩ = some (.pointer none) := hr.1 3 (by omega) (by omega)
          have q4 : wr.cell? ⟨A2, k * 14 + 4, none⟩ = some (.pointer none) := hr.1 4 (by omega) (by omega)
          have q5 : wr.cell? ⟨A2, k * 14 + 5, none⟩ = some (.pointer none) := hr.1 5 (by omega) (by omega)
          have q6 : wr.cell? ⟨A2, k * 14 + 6, none⟩ = some (.pointer none) := hr.1 6 (by omega) (by omega)
          have q7 : wr.cell? ⟨A2, k * 14 + 7, none⟩ = some (.pointer none) := hr.1 7 (by omega) (by omega)
          have q8 : wr.cell? ⟨A2, k * 14 + 8, none⟩ = some (.pointer none) := hr.1 8 (by omega) (by omega)
          have q9 : wr.cell? ⟨A2, k * 14 + 9, none⟩ = some (.pointer none) := hr.1 9 (by omega) (by omega)
          have q10 : wr.cell? ⟨A2, k * 14 + 10, none⟩ = some (.pointer none) := hr.1 10 (by omega) (by omega)
          have q11 : wr.cell? ⟨A2, k * 14 + 11, none⟩ = some (.pointer none) := hr.1 11 (by omega) (by omega)
          have q12 : wr.cell? ⟨A2, k * 14 + 12, none⟩ = some (.pointer none) := hr.1 12 (by omega) (by omega)
          have q13 : wr.cell? ⟨A2, k * 14 + 13, none⟩ = some (.pointer none) := hr.1 13 (by omega) (by omega)
          clear hr
          go_wp2_with fail
          refine (view_tag _ b (joined s Tg k) hbs).mono ?_
          rintro e wa ⟨rfl, hba⟩
          have hMa := hM.later hba
          have hRa := fun i hi => (hR i hi).later hba
          have ck := hMa.cell k hlk
          clear q0 q1 q2 q3 q4 q5 q6 q7 q8 q9 q10 q11 q12 q13 hM hR hba hbs
          go_wp2_with fail
          refine (is_any wa true false (joined s Tg k) ⟨#[]⟩).mono ?_
          rintro e wb ⟨rfl, rfl⟩
          clear ck
          go_wp2
          go_roundw
          case rel => exact ⟨k + 1, by omega, by go_num, hMa, hRa⟩
          case measure => simp [intOf]; omega
        · go_wp2
          go_ret
          exact ⟨rfl, hM.below⟩

end Go.Proofs.Qxb6614307a
