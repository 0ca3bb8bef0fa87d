/-
  Seat b6614215a: the walk of FnFieldNumberJoinAtAnyCut, on the ways that come to the objects.
-/
import Derived.Test.Qxb6614215aMake
namespace Go.Proofs.Qxb6614215a
open Go.RowKit
set_option linter.unusedVariables false

/-- The n numbers Z lie where the slice's address leads. -/
def Row (w : World) (a : Option Addr) (n : Nat) (Z : Nat → Int) : Prop :=
  ∀ i, i < n → ∃ b off, a = some ⟨b, off, none⟩ ∧ b < w.heap.size ∧ w.cell? ⟨b, off + i, none⟩ = some (.int .i64 (Z i))

theorem Row.later {w w' : World} {a : Option Addr} {n : Nat} {Z : Nat → Int} (h : Row w a n Z) (hb : Below w.heap.size w w') : Row w' a n Z := by
  intro i hi
  obtain ⟨b, off, h1, h2, h3⟩ := h i hi
  have := hb.size
  exact ⟨b, off, h1, by omega, (hb.cell (by exact h2)).trans h3⟩

theorem Row.take {w : World} {a : Option Addr} {n c : Nat} {Z : Nat → Int} (h : Row w a n Z) (hc : c ≤ n) : Row w a c Z := fun i hi => h i (by omega)

theorem Row.drop {w : World} {a a' : Option Addr} {n c : Nat} {Z : Nat → Int} (h : Row w a n Z) (ha : c < n → a' = a.map (·.add c)) : Row w a' (n - c) (fun i => Z (c + i)) := by
  intro i hi
  obtain ⟨b, off, h1, h2, h3⟩ := h (c + i) (by omega)
  have h0 := ha (by omega)
  refine ⟨b, off + c, ?_, h2, by rw [← h3, Nat.add_assoc]⟩
  rw [h0, h1]
  by_cases hc0 : c = 0
  · subst hc0; rfl
  · simp [Addr.add, hc0]

theorem fieldNumber_zero (w : World) (B n : Nat) (Z : Nat → Int) (i : Int) (j : Nat) (hij : i = j) (h : Obj w B n Z) (hi : j < n) (hn : n ≤ 65537) (hz : Z j = 0) :
    Calls Try.prog 7 #[.pointer (some ⟨B, 0, none⟩), .int .i64 i] w fun e w' => e = .returned (.int .i64 (i + 1)) ∧ w = w' := by
  subst hij
  have := fieldNumber_any w B n Z j h hi hn
  rw [hz] at this
  exact this.mono fun e w' h => ⟨h.1, h.2.symm⟩

theorem fieldNumber_index (w : World) (B n : Nat) (Z : Nat → Int) (i : Int) (j : Nat) (z : Int) (hij : i = j) (h : Obj w B n Z) (hi : j < n) (hn : n ≤ 65537) (hz : Z j = z) (hz0 : z ≠ 0) :
    Calls Try.prog 7 #[.pointer (some ⟨B, 0, none⟩), .int .i64 i] w fun e w' => e = .returned (.int .i64 z) ∧ w = w' := by
  subst hij
  have := fieldNumber_any w B n Z j h hi hn
  simp only [hz, num, if_neg hz0] at this
  exact this.mono fun e w' h => ⟨h.1, h.2.symm⟩

theorem bytes8 (w : World) (a : Option Addr) (n cap : Nat) (c : Int) (hn : n ≤ 65536) :
    Calls Try.prog 8 #[.slice a n cap, .int .i64 c] w fun e w' => e = .returned (.bool true) ∧ w = w' := by
  go_enter Try.func8, Try.ntmps8
  go_wp2
  go_ret
  exact ⟨rfl, rfl⟩

set_option maxHeartbeats 1000000 in
theorem join_end (w : World) (a : Option Addr) (n cap : Nat) (Z : Nat → Int) (hn : n ≤ 65536) (hcap : n ≤ cap) (hm : cap ≤ maxLen) (hR : Row w a n Z) :
    Calls Try.prog 4 #[.slice a n cap, .int .i64 n] w fun e w' => e = .returned (.bool true) ∧ Below w.heap.size w w' := by
  unfold maxLen at hm
  have t1 : decide (65536 < (n : Int)) = false := decide_eq_false (by omega)
  have t2 : decide ((n : Int) < 0) = false := decide_eq_false (by omega)
  have t3 : decide (n < n) = false := decide_eq_false (by omega)
  go_enter Try.func4, Try.ntmps4
  go_wp2_with (go_at_call 8; refine (bytes8 _ _ _ _ _ (by omega)).mono ?_; rintro e w' ⟨rfl, rfl⟩)
  refine (objectOf_any w _ n cap Z (by omega) hR).mono ?_
  rintro e w1 ⟨B1, rfl, o1, b1⟩
  have hR1 := hR.later b1
  have s1 := b1.size
  go_wp2_with fail
  refine (objectOf_any w1 _ n cap Z (by omega) (hR1)).mono ?_
  rintro e w2 ⟨B2, rfl, o2, b2⟩
  have hR2 := hR1.later b2
  have s2 := b2.size
  have o1' := o1.later b2
  clear hR1 o1
  go_wp2_with fail
  all_goals
    refine (objectOf_any w2 _ 0 _ Z (by omega) (fun i hi => absurd hi (Nat.not_lt_zero _))).mono ?_
    rintro e w3 ⟨B3, rfl, o3, b3⟩
    have s3 := b3.size
    have hR3 := hR2.later b3
    have p1 := o1'.later b3
    have p2 := o2.later b3
    have bb : Below w.heap.size w w3 := (b1.trans (b2.mono s1)).trans (b3.mono (by omega))
    clear hR hR2 o1' o2 b1 b2 b3 s1 s2 s3
    go_wp2_with fail
    go_loop [9] (fun j => ∃ k : Nat, k ≤ n ∧ j = .int .i64 k) (fun j => n - (intOf j).toNat)
    case atStart => exact ⟨0, Nat.zero_le _, rfl⟩
    case round =>
      obtain ⟨k, hk, rfl⟩ := hrel
      by_cases hlt : k < n
      · by_cases hz : Z k = 0
        · have HZ : Hid (Z k = 0) := hz
          clear hz
          go_wp2_with fail
          refine (fieldNumber_zero w3 B1 n Z _ k rfl p1 (by omega) (by omega) HZ.out).mono ?_
          rintro e w' ⟨rfl, rfl⟩
          go_wp2_with fail
          refine (fieldNumber_zero w3 B2 n Z _ k rfl p2 (by omega) (by omega) HZ.out).mono ?_
          rintro e w' ⟨rfl, rfl⟩
          go_wp2
          go_round
          case rel => exact ⟨k + 1, by omega, by go_num⟩
          case measure => simp [intOf]; omega
        · obtain ⟨z, hzz⟩ : ∃ z, Z k = z := ⟨_, rfl⟩
          rw [hzz] at hz
          have HZ : Hid (Z k = z) := hzz
          clear hzz
          have hz' : (z == 0) = false := by simpa using hz
          go_wp2_with fail
          refine (fieldNumber_index w3 B1 n Z _ k z rfl p1 (by omega) (by omega) HZ.out hz).mono ?_
          rintro e w' ⟨rfl, rfl⟩
          go_wp2_with fail
          refine (fieldNumber_index w3 B2 n Z _ k z rfl p2 (by omega) (by omega) HZ.out hz).mono ?_
          rintro e w' ⟨rfl, rfl⟩
          go_wp2
          go_round
          case rel => exact ⟨k + 1, by omega, by go_num⟩
          case measure => simp [intOf]; omega
      · go_wp2
        go_loop [10, 11] (fun j _ => ∃ k : Nat, k ≤ 0 ∧ j = .int .i64 k) (fun j _ => 0 - (intOf j).toNat)
        case atStart => exact ⟨0, Nat.zero_le _, rfl⟩
        case round =>
          obtain ⟨q, hq, rfl⟩ := hrel
          by_cases hlq : q < 0
          · exact absurd hlq (Nat.not_lt_zero _)
          · go_wp2
            go_ret
            exact ⟨rfl, bb⟩

set_option maxHeartbeats 1000000 in
theorem join_zero (w : World) (b off n cap c : Nat) (Z : Nat → Int) (hn : n ≤ 65536) (hcap : n ≤ cap) (hm : cap ≤ maxLen) (hR : Row w (some ⟨b, off, none⟩) n Z) (hZb : ∀ i, -9223372036854775808 ≤ Z i ∧ Z i ≤ 9223372036854775807) (hcn1 : c < n) (HZc : Hid (Z c = 0)) :
    Calls Try.prog 4 #[.slice (some ⟨b, off, none⟩) n cap, .int .i64 c] w fun e w' => e = .returned (.bool true) ∧ Below w.heap.size w w' := by
  unfold maxLen at hm
  have hcn : c ≤ n := by omega
  have hcn2 : ¬ cap = c := by omega
  have HZb : Hid _ := hZb
  clear hZb
  have t1 : decide (65536 < (n : Int)) = false := decide_eq_false (by omega)
  have t2 : decide ((c : Int) < 0) = false := decide_eq_false (by omega)
  have t3 : decide (n < c) = false := decide_eq_false (by omega)
  go_enter Try.func4, Try.ntmps4
  go_wp2_with (go_at_call 8; refine (bytes8 _ _ _ _ _ (by omega)).mono ?_; rintro e w' ⟨rfl, rfl⟩)
  refine (objectOf_any w _ n cap Z (by omega) hR).mono ?_
  rintro e w1 ⟨B1, rfl, o1, b1⟩
  have hR1 := hR.later b1
  have s1 := b1.size
  go_wp2_with fail
  refine (objectOf_any w1 _ c cap Z (by omega) (hR1.take hcn)).mono ?_
  rintro e w2 ⟨B2, rfl, o2, b2⟩
  have hR2 := hR1.later b2
  have s2 := b2.size
  have o1' := o1.later b2
  clear hR1 o1
  go_wp2_with fail
  all_goals
    refine (objectOf_any w2 _ (n - c) _ (fun i => Z (c + i)) (by omega) (hR2.drop (by intro hlt; first | (exfalso; omega) | rfl | simp [Addr.add_lit]))).mono ?_
    rintro e w3 ⟨B3, rfl, o3, b3⟩
    have s3 := b3.size
    have hR3 := hR2.later b3
    have p1 := o1'.later b3
    have p2 := o2.later b3
    have bb : Below w.heap.size w w3 := (b1.trans (b2.mono s1)).trans (b3.mono (by omega))
    clear hR hR2 o1' o2 b1 b2 b3 s1 s2 s3
    have hcc : w3.cell? ⟨b, off + c, none⟩ = some (.int .i64 0) := by
      obtain ⟨b', off', e1, _, e3⟩ := hR3 c hcn1
      simp at e1; obtain ⟨rfl, rfl⟩ := e1; rw [HZc.out] at e3; exact e3
    go_wp2_with fail
    refine (fieldNumber_zero w3 B1 n Z _ c rfl p1 (by omega) (by omega) HZc.out).mono ?_
    rintro e w' ⟨rfl, rfl⟩
    go_wp2
    go_loop [9] (fun j => ∃ k : Nat, k ≤ c ∧ j = .int .i64 k) (fun j => c - (intOf j).toNat)
    case atStart => exact ⟨0, Nat.zero_le _, rfl⟩
    case round =>
      obtain ⟨k, hk, rfl⟩ := hrel
      by_cases hlt : k < c
      · by_cases hz : Z k = 0
        · have HZ : Hid (Z k = 0) := hz
          clear hz
          go_wp2_with fail
          refine (fieldNumber_zero w3 B1 n Z _ k rfl p1 (by omega) (by omega) HZ.out).mono ?_
          rintro e w' ⟨rfl, rfl⟩
          go_wp2_with fail
          refine (fieldNumber_zero w3 B2 c Z _ k rfl p2 (by omega) (by omega) HZ.out).mono ?_
          rintro e w' ⟨rfl, rfl⟩
          go_wp2
          go_round
          case rel => exact ⟨k + 1, by omega, by go_num⟩
          case measure => simp [intOf]; omega
        · obtain ⟨z, hzz⟩ : ∃ z, Z k = z := ⟨_, rfl⟩
          rw [hzz] at hz
          have HZ : Hid (Z k = z) := hzz
          clear hzz
          have hz' : (z == 0) = false := by simpa using hz
          go_wp2_with fail
          refine (fieldNumber_index w3 B1 n Z _ k z rfl p1 (by omega) (by omega) HZ.out hz).mono ?_
          rintro e w' ⟨rfl, rfl⟩
          go_wp2_with fail
          refine (fieldNumber_index w3 B2 c Z _ k z rfl p2 (by omega) (by omega) HZ.out hz).mono ?_
          rintro e w' ⟨rfl, rfl⟩
          go_wp2
          go_round
          case rel => exact ⟨k + 1, by omega, by go_num⟩
          case measure => simp [intOf]; omega
      · go_wp2
        go_loop [10, 11] (fun j _ => ∃ k : Nat, k ≤ n - c ∧ j = .int .i64 k) (fun j _ => n - c - (intOf j).toNat)
        case atStart => exact ⟨0, Nat.zero_le _, rfl⟩
        case round =>
          obtain ⟨q, hq, rfl⟩ := hrel
          by_cases hlq : q < n - c
          · have hq3 : (c : Int) + (q : Int) < (n : Int) := by omega
            have hcq : w3.cell? ⟨b, off + (c + q), none⟩ = some (.int .i64 (Z (c + q))) := by
              obtain ⟨b', off', e1, _, e3⟩ := hR3 (c + q) (by omega)
              simp at e1; obtain ⟨rfl, rfl⟩ := e1; exact e3
            by_cases hz : Z (c + q) = 0
            · have HZ : Hid (Z (c + q) = 0) := hz
              rw [hz] at hcq
              clear hz
              go_wp2_with fail
              refine (fieldNumber_zero w3 B1 n Z _ (c + q) (by omega) p1 (by omega) (by omega) HZ.out).mono ?_
              rintro e w' ⟨rfl, rfl⟩
              go_wp2_with fail
              refine (fieldNumber_zero w3 B3 (n - c) (fun i => Z (c + i)) _ q rfl o3 (by omega) (by omega) HZ.out).mono ?_
              rintro e w' ⟨rfl, rfl⟩
              go_wp2
              go_round
              case rel => exact ⟨q + 1, by omega, by go_num⟩
              case measure => simp [intOf]; omega
            · obtain ⟨z, hzz⟩ : ∃ z, Z (c + q) = z := ⟨_, rfl⟩
              have hw : -9223372036854775808 ≤ z ∧ z ≤ 9223372036854775807 := hzz ▸ HZb.out (c + q)
              rw [hzz] at hz hcq
              have HZ : Hid (Z (c + q) = z) := hzz
              clear hzz
              have hz' : (z == 0) = false := by simpa using hz
              go_wp2_with fail
              refine (fieldNumber_index w3 B1 n Z _ (c + q) z (by omega) p1 (by omega) (by omega) HZ.out hz).mono ?_
              rintro e w' ⟨rfl, rfl⟩
              go_wp2_with fail
              refine (fieldNumber_index w3 B3 (n - c) (fun i => Z (c + i)) _ q z rfl o3 (by omega) (by omega) HZ.out hz).mono ?_
              rintro e w' ⟨rfl, rfl⟩
              go_wp2
              go_round
              case rel => exact ⟨q + 1, by omega, by go_num⟩
              case measure => simp [intOf]; omega
          · go_wp2
            go_ret
            exact ⟨rfl, bb⟩

set_option maxHeartbeats 1000000 in
theorem join_index (w : World) (b off n cap c : Nat) (Z : Nat → Int) (hn : n ≤ 65536) (hcap : n ≤ cap) (hm : cap ≤ maxLen) (hR : Row w (some ⟨b, off, none⟩) n Z) (hZb : ∀ i, -9223372036854775808 ≤ Z i ∧ Z i ≤ 9223372036854775807) (hcn1 : c < n) (zc : Int) (HZc : Hid (Z c = zc)) (hzc : zc ≠ 0) (hzc' : (zc == 0) = false) :
    Calls Try.prog 4 #[.slice (some ⟨b, off, none⟩) n cap, .int .i64 c] w fun e w' => e = .returned (.bool true) ∧ Below w.heap.size w w' := by
  unfold maxLen at hm
  have hcn : c ≤ n := by omega
  have hcn2 : ¬ cap = c := by omega
  have HZb : Hid _ := hZb
  clear hZb
  have t1 : decide (65536 < (n : Int)) = false := decide_eq_false (by omega)
  have t2 : decide ((c : Int) < 0) = false := decide_eq_false (by omega)
  have t3 : decide (n < c) = false := decide_eq_false (by omega)
  go_enter Try.func4, Try.ntmps4
  go_wp2_with (go_at_call 8; refine (bytes8 _ _ _ _ _ (by omega)).mono ?_; rintro e w' ⟨rfl, rfl⟩)
  refine (objectOf_any w _ n cap Z (by omega) hR).mono ?_
  rintro e w1 ⟨B1, rfl, o1, b1⟩
  have hR1 := hR.later b1
  have s1 := b1.size
  go_wp2_with fail
  refine (objectOf_any w1 _ c cap Z (by omega) (hR1.take hcn)).mono ?_
  rintro e w2 ⟨B2, rfl, o2, b2⟩
  have hR2 := hR1.later b2
  have s2 := b2.size
  have o1' := o1.later b2
  clear hR1 o1
  go_wp2_with fail
  all_goals
    refine (objectOf_any w2 _ (n - c) _ (fun i => Z (c + i)) (by omega) (hR2.drop (by intro hlt; first | (exfalso; omega) | rfl | simp [Addr.add_lit]))).mono ?_
    rintro e w3 ⟨B3, rfl, o3, b3⟩
    have s3 := b3.size
    have hR3 := hR2.later b3
    have p1 := o1'.later b3
    have p2 := o2.later b3
    have bb : Below w.heap.size w w3 := (b1.trans (b2.mono s1)).trans (b3.mono (by omega))
    clear hR hR2 o1' o2 b1 b2 b3 s1 s2 s3
    have hcc : w3.cell? ⟨b, off + c, none⟩ = some (.int .i64 zc) := by
      obtain ⟨b', off', e1, _, e3⟩ := hR3 c hcn1
      simp at e1; obtain ⟨rfl, rfl⟩ := e1; rw [HZc.out] at e3; exact e3
    go_wp2_with fail
    refine (fieldNumber_index w3 B1 n Z _ c zc rfl p1 (by omega) (by omega) HZc.out hzc).mono ?_
    rintro e w' ⟨rfl, rfl⟩
    go_wp2
    go_loop [9] (fun j => ∃ k : Nat, k ≤ c ∧ j = .int .i64 k) (fun j => c - (intOf j).toNat)
    case atStart => exact ⟨0, Nat.zero_le _, rfl⟩
    case round =>
      obtain ⟨k, hk, rfl⟩ := hrel
      by_cases hlt : k < c
      · by_cases hz : Z k = 0
        · have HZ : Hid (Z k = 0) := hz
          clear hz
          go_wp2_with fail
          refine (fieldNumber_zero w3 B1 n Z _ k rfl p1 (by omega) (by omega) HZ.out).mono ?_
          rintro e w' ⟨rfl, rfl⟩
          go_wp2_with fail
          refine (fieldNumber_zero w3 B2 c Z _ k rfl p2 (by omega) (by omega) HZ.out).mono ?_
          rintro e w' ⟨rfl, rfl⟩
          go_wp2
          go_round
          case rel => exact ⟨k + 1, by omega, by go_num⟩
          case measure => simp [intOf]; omega
        · obtain ⟨z, hzz⟩ : ∃ z, Z k = z := ⟨_, rfl⟩
          rw [hzz] at hz
          have HZ : Hid (Z k = z) := hzz
          clear hzz
          have hz' : (z == 0) = false := by simpa using hz
          go_wp2_with fail
          refine (fieldNumber_index w3 B1 n Z _ k z rfl p1 (by omega) (by omega) HZ.out hz).mono ?_
          rintro e w' ⟨rfl, rfl⟩
          go_wp2_with fail
          refine (fieldNumber_index w3 B2 c Z _ k z rfl p2 (by omega) (by omega) HZ.out hz).mono ?_
          rintro e w' ⟨rfl, rfl⟩
          go_wp2
          go_round
          case rel => exact ⟨k + 1, by omega, by go_num⟩
          case measure => simp [intOf]; omega
      · go_wp2
        go_loop [10, 11] (fun j _ => ∃ k : Nat, k ≤ n - c ∧ j = .int .i64 k) (fun j _ => n - c - (intOf j).toNat)
        case atStart => exact ⟨0, Nat.zero_le _, rfl⟩
        case round =>
          obtain ⟨q, hq, rfl⟩ := hrel
          by_cases hlq : q < n - c
          · have hq3 : (c : Int) + (q : Int) < (n : Int) := by omega
            have hcq : w3.cell? ⟨b, off + (c + q), none⟩ = some (.int .i64 (Z (c + q))) := by
              obtain ⟨b', off', e1, _, e3⟩ := hR3 (c + q) (by omega)
              simp at e1; obtain ⟨rfl, rfl⟩ := e1; exact e3
            by_cases hz : Z (c + q) = 0
            · have HZ : Hid (Z (c + q) = 0) := hz
              rw [hz] at hcq
              clear hz
              go_wp2_with fail
              refine (fieldNumber_zero w3 B1 n Z _ (c + q) (by omega) p1 (by omega) (by omega) HZ.out).mono ?_
              rintro e w' ⟨rfl, rfl⟩
              go_wp2_with fail
              refine (fieldNumber_zero w3 B3 (n - c) (fun i => Z (c + i)) _ q rfl o3 (by omega) (by omega) HZ.out).mono ?_
              rintro e w' ⟨rfl, rfl⟩
              go_wp2
              go_round
              case rel => exact ⟨q + 1, by omega, by go_num⟩
              case measure => simp [intOf]; omega
            · obtain ⟨z, hzz⟩ : ∃ z, Z (c + q) = z := ⟨_, rfl⟩
              have hw : -9223372036854775808 ≤ z ∧ z ≤ 9223372036854775807 := hzz ▸ HZb.out (c + q)
              rw [hzz] at hz hcq
              have HZ : Hid (Z (c + q) = z) := hzz
              clear hzz
              have hz' : (z == 0) = false := by simpa using hz
              go_wp2_with fail
              refine (fieldNumber_index w3 B1 n Z _ (c + q) z (by omega) p1 (by omega) (by omega) HZ.out hz).mono ?_
              rintro e w' ⟨rfl, rfl⟩
              go_wp2_with fail
              refine (fieldNumber_index w3 B3 (n - c) (fun i => Z (c + i)) _ q z rfl o3 (by omega) (by omega) HZ.out hz).mono ?_
              rintro e w' ⟨rfl, rfl⟩
              go_wp2
              go_round
              case rel => exact ⟨q + 1, by omega, by go_num⟩
              case measure => simp [intOf]; omega
          · go_wp2
            go_ret
            exact ⟨rfl, bb⟩
end Go.Proofs.Qxb6614215a
