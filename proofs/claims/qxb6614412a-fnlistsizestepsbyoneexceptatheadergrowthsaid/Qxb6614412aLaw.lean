/-
  Seat b6614412a: the law's walk.
-/
import Derived.Test.Qxb6614412aGrow
namespace Go.Proofs.Qxb6614412a
open Go.RowKit
set_option linter.unusedVariables false

theorem hd_range (s : Nat) : 1 ≤ hd s ∧ hd s ≤ 9 := by
  unfold hd
  repeat (split; omega)
  omega

theorem hd_short {s : Nat} (h : s < 56) : hd s = 1 := by simp [hd, h]

theorem hd_pow {s j : Nat} (h1 : 1 ≤ j) (h2 : j ≤ 7) (h : s + 1 = 256 ^ j) : hd (s + 1) = hd s + 1 := by
  have e : s = 256 ^ j - 1 := by omega
  rw [h]
  subst e
  match j, h1, h2 with
  | 1, _, _ => decide +kernel
  | 2, _, _ => decide +kernel
  | 3, _, _ => decide +kernel
  | 4, _, _ => decide +kernel
  | 5, _, _ => decide +kernel
  | 6, _, _ => decide +kernel
  | 7, _, _ => decide +kernel

theorem hd_same {s : Nat} (h0 : s + 1 ≠ 56) (h : ∀ j, 1 ≤ j → j ≤ 7 → s + 1 ≠ 256 ^ j) : hd (s + 1) = hd s := by
  have g1 := h 1 (by omega) (by omega)
  have g2 := h 2 (by omega) (by omega)
  have g3 := h 3 (by omega) (by omega)
  have g4 := h 4 (by omega) (by omega)
  have g5 := h 5 (by omega) (by omega)
  have g6 := h 6 (by omega) (by omega)
  have g7 := h 7 (by omega) (by omega)
  simp only [Nat.reducePow, Nat.pow_one] at g1 g2 g3 g4 g5 g6 g7
  unfold hd
  by_cases c0 : s < 56
  · rw [if_pos c0, if_pos (by omega)]
  rw [if_neg c0, if_neg (show ¬ s + 1 < 56 by omega)]
  by_cases c1 : s < 256
  · rw [if_pos c1, if_pos (by omega)]
  rw [if_neg c1, if_neg (show ¬ s + 1 < 256 by omega)]
  by_cases c2 : s < 65536
  · rw [if_pos c2, if_pos (by omega)]
  rw [if_neg c2, if_neg (show ¬ s + 1 < 65536 by omega)]
  by_cases c3 : s < 16777216
  · rw [if_pos c3, if_pos (by omega)]
  rw [if_neg c3, if_neg (show ¬ s + 1 < 16777216 by omega)]
  by_cases c4 : s < 4294967296
  · rw [if_pos c4, if_pos (by omega)]
  rw [if_neg c4, if_neg (show ¬ s + 1 < 4294967296 by omega)]
  by_cases c5 : s < 1099511627776
  · rw [if_pos c5, if_pos (by omega)]
  rw [if_neg c5, if_neg (show ¬ s + 1 < 1099511627776 by omega)]
  by_cases c6 : s < 281474976710656
  · rw [if_pos c6, if_pos (by omega)]
  rw [if_neg c6, if_neg (show ¬ s + 1 < 281474976710656 by omega)]
  by_cases c7 : s < 72057594037927936
  · rw [if_pos c7, if_pos (by omega)]
  rw [if_neg c7, if_neg (show ¬ s + 1 < 72057594037927936 by omega)]

theorem hd_step {s : Nat} {b : Bool} (h : Grew (s + 1) b) : hd (s + 1) + 1 - hd s = if b then 2 else 1 := by
  rcases h with ⟨rfl, h | ⟨j, h1, h2, h3⟩⟩ | ⟨rfl, h1, h2⟩
  · obtain rfl : s = 55 := by omega
    decide +kernel
  · rw [hd_pow h1 h2 h3]; simp; omega
  · rw [hd_same h1 h2]; simp; omega

/-- ListSize: the header and s, in wrapping arithmetic. -/
theorem size_any (w : World) (s : Nat) (hs : (s : Int) ≤ 9223372036854775807) :
    Calls Try.prog 4 #[.int .i64 s] w fun e w' => ∃ A : Int, e = .returned (.int .i64 A) ∧ Hid (A = wrap64 (hd s + s)) ∧ Below w.heap.size w w' := by
  by_cases h : s < 56
  · refine (size_short w s (by omega) (by omega)).mono ?_
    rintro e w' ⟨rfl, hb⟩
    exact ⟨_, rfl, by show _ = _; rw [hd_short h]; unfold wrap64; omega, hb⟩
  · refine (size_long w s (by omega) hs).mono ?_
    rintro e w' ⟨k, rfl, hA, hb⟩
    refine ⟨_, rfl, ?_, hb⟩
    show _ = _
    rw [← head_hd (.inr ⟨by omega, k, rfl, hA⟩)]

theorem wrap_one (A h s : Int) (h1 : 1 ≤ h ∧ h ≤ 9) (hs : 0 ≤ s) (hs2 : s ≤ 9223372036854775807) (hA : A = wrap64 (h + s)) : wrap64 (A - s) = h := by
  subst hA; unfold wrap64; omega

theorem wrap_two (A B h k s : Int) (h1 : 1 ≤ h ∧ h ≤ 9) (k1 : 1 ≤ k ∧ k ≤ 9) (hA : A = wrap64 (h + s)) (hB : B = wrap64 (k + (s + 1))) : wrap64 (B - A) = k + 1 - h := by
  subst hA; subst hB; unfold wrap64; omega

theorem size_at (w : World) (i : Int) (s : Nat) (hi : i = s) (hs : (s : Int) ≤ 9223372036854775807) :
    Calls Try.prog 4 #[.int .i64 i] w fun e w' => ∃ A : Int, e = .returned (.int .i64 A) ∧ Hid (A = wrap64 (hd s + s)) ∧ Below w.heap.size w w' := by
  subst hi; exact size_any w s hs

theorem grow_at (w : World) (i : Int) (t : Nat) (hi : i = t) (h1 : (t : Int) ≤ 9223372036854775807) :
    Calls Try.prog 5 #[.int .i64 i] w fun e w' => GrewAns t w e w' := by
  subst hi; exact grow_any w t h1

set_option maxHeartbeats 1000000 in
theorem law_core (w : World) (s : Nat) (hs : (s : Int) < 9223372036854775807) :
    Calls Try.prog 3 #[.int .i64 s] w fun e w' => e = .returned (.bool true) ∧ Below w.heap.size w w' := by
  have hr := hd_range s
  have hr1 := hd_range (s + 1)
  obtain ⟨h, hh⟩ : ∃ h, hd s = h := ⟨_, rfl⟩
  obtain ⟨k, hk⟩ : ∃ k, hd (s + 1) = k := ⟨_, rfl⟩
  have Hh : Hid (hd s = h) := hh
  have Hk : Hid (hd (s + 1) = k) := hk
  rw [hh] at hr
  rw [hk] at hr1
  obtain ⟨r1, r2⟩ := hr
  obtain ⟨r3, r4⟩ := hr1
  clear hh hk
  have t0 : decide ((s : Int) < 0) = false := decide_eq_false (by omega)
  have t1 : ((s : Int) == 9223372036854775807) = false := beq_eq_false_iff_ne.2 (by omega)
  go_enter Try.func3, Try.ntmps3
  go_wp2_with fail
  refine (size_any w s (by omega)).mono ?_
  rintro e w1 ⟨A, rfl, hA, hb1⟩
  go_wp2_with fail
  refine (size_at w1 _ (s + 1) (by omega) (by omega)).mono ?_
  rintro e w2 ⟨B, rfl, hB, hb2⟩
  have hb : Below w.heap.size w w2 := hb1.trans (hb2.mono hb1.size)
  have eA : A = wrap64 (h + s) := by rw [hA.out, Hh.out]
  have eB : B = wrap64 (k + ((s : Int) + 1)) := by rw [hB.out, Hk.out]; congr 2
  have e1 : wrap64 (A - s) = h := wrap_one A h s ⟨r1, r2⟩ (by omega) (by omega) eA
  have e2 := wrap_two A B h k s ⟨r1, r2⟩ ⟨r3, r4⟩ eA eB
  have E2 : Hid (wrap64 (B - A) = k + 1 - h) := e2
  clear hA hB eA eB e2 hb1 hb2 t0 t1
  by_cases h56 : s < 56
  · have hh1 : h = 1 := by rw [← Hh.out]; exact hd_short h56
    subst hh1
    have h56' : (s : Int) < 56 := by omega
    go_wp2_with fail
    refine (grow_at w2 _ (s + 1) (by omega) (by omega)).mono ?_
    rintro e w3 ⟨b, rfl, hg, rfl⟩
    have hst := hd_step hg
    rw [Hh.out, Hk.out] at hst
    have e3 : wrap64 (B - A) = if b then 2 else 1 := E2.out.trans hst
    clear hst hg
    cases b
    · simp only [Bool.false_eq_true, if_false] at e3
      go_wp2
      go_ret
      exact ⟨rfl, hb⟩
    · simp only [if_true] at e3
      go_wp2
      go_ret
      exact ⟨rfl, hb⟩
  · have h56' : decide ((s : Int) < 56) = false := decide_eq_false (by omega)
    have b1 : decide (h < 1) = false := decide_eq_false (by omega)
    have b2 : decide (9 < h) = false := decide_eq_false (by omega)
    have b3 : (s : Int) ≤ 9223372036854775806 := by omega
    clear h56 hs r1 r2 r3 r4
    go_wp2_with fail
    refine (grow_at w2 _ (s + 1) (by omega) (by omega)).mono ?_
    rintro e w3 ⟨b, rfl, hg, rfl⟩
    have hst := hd_step hg
    rw [Hh.out, Hk.out] at hst
    have e3 : wrap64 (B - A) = if b then 2 else 1 := E2.out.trans hst
    clear hst hg
    cases b
    · simp only [Bool.false_eq_true, if_false] at e3
      go_wp2
      go_ret
      exact ⟨rfl, hb⟩
    · simp only [if_true] at e3
      go_wp2
      go_ret
      exact ⟨rfl, hb⟩
end Go.Proofs.Qxb6614412a
