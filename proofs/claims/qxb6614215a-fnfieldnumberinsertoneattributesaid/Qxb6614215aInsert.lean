/-
  Seat b6614215a: the walk of FnFieldNumberInsertOneAttribute, on the ways that come to the objects.
-/
import Derived.Test.Qxb6614215aJoin
namespace Go.Proofs.Qxb6614215a
open Go.RowKit
set_option linter.unusedVariables false

theorem Try.info3 : (Try.prog.info? 3).map (fun i => (i.zero, i.size, i.bytes)) = some (some (.int .i64 0), 1, 8) := by kernel_rfl

/-- The numbers with ix put in at place k. -/
def ins (k : Nat) (ix : Int) (Z : Nat → Int) (i : Nat) : Int := if i < k then Z i else if i = k then ix else Z (i - 1)
theorem ins_lt {k : Nat} {ix : Int} {Z : Nat → Int} {i : Nat} (h : i < k) : ins k ix Z i = Z i := by simp [ins, h]
theorem ins_at {k : Nat} {ix : Int} {Z : Nat → Int} : ins k ix Z k = ix := by simp [ins]
theorem ins_gt {k : Nat} {ix : Int} {Z : Nat → Int} {i : Nat} (h : k ≤ i) : ins k ix Z (i + 1) = Z i := by
  simp [ins, show ¬ i + 1 < k by omega, show ¬ i + 1 = k by omega]

/-- The first q of the numbers Y, as cells. -/
def cellsTo (Y : Nat → Int) (q : Nat) : List Value := (List.range q).map fun i => .int .i64 (Y i)
theorem cellsTo_succ (Y : Nat → Int) (q : Nat) (z : Int) (h : Y q = z) : cellsTo Y q ++ [.int .i64 z] = cellsTo Y (q + 1) := by
  subst h; simp [cellsTo, List.range_succ]
theorem cellsTo_get (Y : Nat → Int) (q i : Nat) (h : i < q) : (cellsTo Y q)[i]? = some (.int .i64 (Y i)) := by
  simp [cellsTo, h]

/-- In the loops: the row at block g owns the first q numbers of Y, with room for c; below g nothing has turned. -/
def Mid (w1 w : World) (c q : Nat) (Y : Nat → Int) : Prop :=
  w.ownsRow w1.heap.size 3 1 (.slice (some ⟨w1.heap.size, 0, none⟩) q c) q (cellsTo Y q) ∧ Below w1.heap.size w1 w

theorem mid_step {w1 w w' : World} {c q : Nat} {Y : Nat → Int} {o : Go.Obj} {z : Int} (h : Mid w1 w c q Y) (hz : Y q = z)
    (hown : w'.ownsRow w1.heap.size 3 1 (.slice (some ⟨w1.heap.size, 0, none⟩) (q + 1) c) (q + 1) (cellsTo Y q ++ [.int .i64 z])) (hg : (w.alloc o).grownBy w' (some w1.heap.size)) : Mid w1 w' c (q + 1) Y := by
  refine ⟨?_, ?_⟩
  · rw [cellsTo_succ Y q z hz] at hown; exact hown
  · have hs := h.2.size
    exact (h.2.alloc hs o).grown hg (by simp; omega) (fun k hk => by simp at hk; omega)

theorem mid_row {w1 w : World} {c q : Nat} {Y : Nat → Int} (h : Mid w1 w c q Y) : Row w (some ⟨w1.heap.size, 0, none⟩) q Y := by
  intro i hi
  refine ⟨_, _, rfl, (h.1.lt _ rfl).2, ?_⟩
  rw [Nat.zero_add, h.1.cellAt i (by omega)]
  exact cellsTo_get Y q i hi

theorem one_new (w : World) (v : Value) (t : TypeId) : ∀ j u, [v][j]? = some u → (w.alloc (.cells #[v] t)).cell? ((⟨w.heap.size, 0, none⟩ : Addr).add j) = some u := by
  intro j u hj
  match j, hj with
  | 0, hj => simp at hj; subst hj; simp [Addr.add]

theorem bytes5 (w : World) (a : Option Addr) (n cap : Nat) (c d : Int) (hn : n ≤ 65536) :
    Calls Try.prog 5 #[.slice a n cap, .int .i64 c, .int .i64 d] w fun e w' => e = .returned (.bool true) ∧ w = w' := by
  go_enter Try.func5, Try.ntmps5
  go_wp2
  go_ret
  exact ⟨rfl, rfl⟩

set_option maxHeartbeats 1000000 in
theorem insert_zero (w : World) (a : Option Addr) (n cap k : Nat) (Z : Nat → Int) (hn : n ≤ 65536) (hcap : n ≤ cap) (hm : cap ≤ maxLen) (hR : Row w a n Z) (HZb : Hid (∀ i, -9223372036854775808 ≤ Z i ∧ Z i ≤ 9223372036854775807)) (hkn : k ≤ n) :
    Calls Try.prog 3 #[.slice a n cap, .int .i64 k, .int .i64 0] w fun e w' => e = .returned (.bool true) ∧ Below w.heap.size w w' := by
  unfold maxLen at hm
  have t1 : decide (65536 < (n : Int)) = false := decide_eq_false (by omega)
  have t2 : decide ((k : Int) < 0) = false := decide_eq_false (by omega)
  have t3 : decide (n < k) = false := decide_eq_false (by omega)
  obtain ⟨i0, hi, hz0, hz1, hz2⟩ := info_parts Try.info3
  have hb2 : i0.bytes * (n + 1) ≤ 281474976710656 := by rw [hz2]; omega
  go_enter Try.func3, Try.ntmps3
  go_wp2_with (go_at_call 5; refine (bytes5 _ _ _ _ _ _ (by omega)).mono ?_; rintro e w' ⟨rfl, rfl⟩)
  refine (objectOf_any w _ n cap Z (by omega) hR).mono ?_
  rintro e w1 ⟨B1, rfl, o1, b1⟩
  have hR1 := hR.later b1
  have s1 := b1.size
  clear hR
  go_wp2_with (at_make; refine wpList_make_own _ rfl _ _ 22 rfl w1.heap.size 3 i0 (.int .i64 0) 1 Try.underlying22 hi hz0 hz1 _ _ _ (n + 1) rfl rfl (by omega) hb2 (by unfold maxLen; omega) (Nat.le_refl _) ?_)
  intro w2 hown hgrow
  have hM : Mid w1 w2 (n + 1) 0 (ins k 0 Z) := ⟨hown, (Below.refl _ _).grown hgrow (Nat.le_refl _) (fun k h => by cases h)⟩
  clear hown hgrow hb2
  go_wp2_with fail
  go_loopw [8, 9] (fun v j wr => ∃ q : Nat, q ≤ k ∧ j = .int .i64 q ∧ v = .slice (some ⟨w1.heap.size, 0, none⟩) q (n + 1) ∧ Mid w1 wr (n + 1) q (ins k 0 Z)) (fun _ j _ => k - (intOf j).toNat)
  case atStart => exact ⟨0, Nat.zero_le _, rfl, rfl, hM⟩
  case round =>
    clear hM
    obtain ⟨q, hq, rfl, rfl, hM⟩ := hrel
    by_cases hlt : q < k
    · obtain ⟨b, off, rfl, hb, hcell⟩ := hR1.later hM.2 q (by omega)
      have hlt' : (q : Int) < (n : Int) := by omega
      go_wp2_with (at_builtin; refine wpList_append_fits _ rfl (.tmp 43) (.tmp 48) 22 rfl w1.heap.size 3 i0 1 Try.underlying22 hi hz1 w1.heap.size q (n + 1) _ rfl (hM.1.alloc _) ⟨wr.heap.size, 0, none⟩ 1 1 [.int .i64 (Z q)] rfl rfl (one_new _ _ _) (by simp [Value.oneCell']) (by omega) ?_)
      intro w3 hown hgrow
      have hM3 := mid_step hM (ins_lt hlt) hown hgrow
      clear hown hgrow hM hcell hb
      go_wp2
      go_roundw
      case rel => exact ⟨q + 1, by omega, by go_num, rfl, hM3⟩
      case measure => simp [intOf]; omega
    · obtain rfl : q = k := by omega
      go_wp2_with (at_builtin; refine wpList_append_fits _ rfl (.tmp 50) (.tmp 52) 22 rfl w1.heap.size 3 i0 1 Try.underlying22 hi hz1 w1.heap.size q (n + 1) _ rfl (hM.1.alloc _) ⟨wr.heap.size, 0, none⟩ 1 1 [.int .i64 0] rfl rfl (one_new _ _ _) (by simp [Value.oneCell']) (by omega) ?_)
      intro w3 hown hgrow
      have hM3 := mid_step hM ins_at hown hgrow
      clear hown hgrow hM
      go_wp2_with fail
      go_loopw [8, 10] (fun v j wr => ∃ p : Nat, q ≤ p ∧ p ≤ n ∧ j = .int .i64 p ∧ v = .slice (some ⟨w1.heap.size, 0, none⟩) (p + 1) (n + 1) ∧ Mid w1 wr (n + 1) (p + 1) (ins q 0 Z)) (fun _ j _ => n - (intOf j).toNat)
      case atStart => exact ⟨q, Nat.le_refl _, hkn, rfl, rfl, hM3⟩
      case round =>
        clear hM3
        obtain ⟨p, hqp, hpn, rfl, rfl, hM⟩ := hrel
        by_cases hlp : p < n
        · obtain ⟨b, off, rfl, hb, hcell⟩ := hR1.later hM.2 p (by omega)
          have hlt' : (p : Int) < (n : Int) := by omega
          go_wp2_with (at_builtin; refine wpList_append_fits _ rfl (.tmp 61) (.tmp 66) 22 rfl w1.heap.size 3 i0 1 Try.underlying22 hi hz1 w1.heap.size (p + 1) (n + 1) _ rfl (hM.1.alloc _) ⟨wr.heap.size, 0, none⟩ 1 1 [.int .i64 (Z p)] rfl rfl (one_new _ _ _) (by simp [Value.oneCell']) (by omega) ?_)
          intro w4 hown hgrow
          have hM4 := mid_step hM (ins_gt hqp) hown hgrow
          clear hown hgrow hM hcell hb
          go_wp2
          go_roundw
          case rel => exact ⟨p + 1, by omega, by omega, by go_num, rfl, hM4⟩
          case measure => simp [intOf]; omega
        · obtain rfl : p = n := by omega
          clear hi hz0 hz1 hz2
          have p1 := o1.later hM.2
          have hR2 := hR1.later hM.2
          have hrow := mid_row hM
          have hs2 := hM.2.size
          have b2 : Below w.heap.size w wr := b1.trans (hM.2.mono s1)
          clear hM b1 hR1 o1
          go_wp2_with fail
          refine (objectOf_any wr _ (p + 1) (p + 1) (ins q 0 Z) (by omega) hrow).mono ?_
          rintro e w5 ⟨B2, rfl, o2, b5⟩
          have hR3 := hR2.later b5
          have p2 := p1.later b5
          have bb : Below w.heap.size w w5 := b2.trans (b5.mono (by omega))
          clear hR2 p1 b2 b5 hrow hs2 s1
          go_wp2_with fail
          refine (fieldNumber_zero w5 B2 (p + 1) (ins q 0 Z) _ q rfl o2 (by omega) (by omega) ins_at).mono ?_
          rintro e w' ⟨rfl, rfl⟩
          go_wp2
          go_loop [13, 14, 15] (fun j _ _ => ∃ r : Nat, r ≤ p ∧ j = .int .i64 r) (fun j _ _ => p - (intOf j).toNat)
          case atStart => exact ⟨0, Nat.zero_le _, rfl⟩
          case round =>
            obtain ⟨r, hr, rfl⟩ := hrel
            by_cases hlr : r < p
            · by_cases hrq : r < q
              · by_cases hz : Z r = 0
                · have HZ : Hid (Z r = 0) := hz
                  clear hz
                  go_wp2_with fail
                  refine (fieldNumber_zero w5 B2 (p + 1) (ins q 0 Z) _ r rfl o2 (by omega) (by omega) ((ins_lt hrq).trans HZ.out)).mono ?_
                  rintro e w' ⟨rfl, rfl⟩
                  go_wp2_with fail
                  refine (fieldNumber_zero w5 B1 p Z _ r rfl p2 (by omega) (by omega) HZ.out).mono ?_
                  rintro e w' ⟨rfl, rfl⟩
                  go_wp2
                  go_round
                  case rel => exact ⟨r + 1, by omega, by go_num⟩
                  case measure => simp [intOf]; omega
                · obtain ⟨z, hzz⟩ : ∃ z, Z r = z := ⟨_, rfl⟩
                  have hw : -9223372036854775808 ≤ z ∧ z ≤ 9223372036854775807 := hzz ▸ HZb.out r
                  rw [hzz] at hz
                  have HZ : Hid (Z r = z) := hzz
                  clear hzz
                  have hz' : (z == 0) = false := by simpa using hz
                  go_wp2_with fail
                  refine (fieldNumber_index w5 B2 (p + 1) (ins q 0 Z) _ r z rfl o2 (by omega) (by omega) ((ins_lt hrq).trans HZ.out) hz).mono ?_
                  rintro e w' ⟨rfl, rfl⟩
                  go_wp2_with fail
                  refine (fieldNumber_index w5 B1 p Z _ r z rfl p2 (by omega) (by omega) HZ.out hz).mono ?_
                  rintro e w' ⟨rfl, rfl⟩
                  go_wp2
                  go_round
                  case rel => exact ⟨r + 1, by omega, by go_num⟩
                  case measure => simp [intOf]; omega
              · obtain ⟨b, off, rfl, hb, hcell⟩ := hR3 r hlr
                have hlr' : (r : Int) < (p : Int) := by omega
                by_cases hz : Z r = 0
                · have HZ : Hid (Z r = 0) := hz
                  rw [hz] at hcell
                  clear hz
                  go_wp2_with fail
                  refine (fieldNumber_zero w5 B2 (p + 1) (ins q 0 Z) _ (r + 1) (by omega) o2 (by omega) (by omega) ((ins_gt (by omega)).trans HZ.out)).mono ?_
                  rintro e w' ⟨rfl, rfl⟩
                  go_wp2_with fail
                  refine (fieldNumber_zero w5 B1 p Z _ r rfl p2 (by omega) (by omega) HZ.out).mono ?_
                  rintro e w' ⟨rfl, rfl⟩
                  go_wp2
                  go_round
                  case rel => exact ⟨r + 1, by omega, by go_num⟩
                  case measure => simp [intOf]; omega
                · obtain ⟨z, hzz⟩ : ∃ z, Z r = z := ⟨_, rfl⟩
                  have hw : -9223372036854775808 ≤ z ∧ z ≤ 9223372036854775807 := hzz ▸ HZb.out r
                  rw [hzz] at hz hcell
                  have HZ : Hid (Z r = z) := hzz
                  clear hzz
                  have hz' : (z == 0) = false := by simpa using hz
                  go_wp2_with fail
                  refine (fieldNumber_index w5 B2 (p + 1) (ins q 0 Z) _ (r + 1) z (by omega) o2 (by omega) (by omega) ((ins_gt (by omega)).trans HZ.out) hz).mono ?_
                  rintro e w' ⟨rfl, rfl⟩
                  go_wp2_with fail
                  refine (fieldNumber_index w5 B1 p Z _ r z rfl p2 (by omega) (by omega) HZ.out hz).mono ?_
                  rintro e w' ⟨rfl, rfl⟩
                  go_wp2
                  go_round
                  case rel => exact ⟨r + 1, by omega, by go_num⟩
                  case measure => simp [intOf]; omega
            · go_wp2
              go_ret
              exact ⟨rfl, bb⟩

set_option maxHeartbeats 1000000 in
theorem insert_index (w : World) (a : Option Addr) (n cap k : Nat) (Z : Nat → Int) (hn : n ≤ 65536) (hcap : n ≤ cap) (hm : cap ≤ maxLen) (hR : Row w a n Z) (HZb : Hid (∀ i, -9223372036854775808 ≤ Z i ∧ Z i ≤ 9223372036854775807)) (hkn : k ≤ n) (ix : Int) (hix : ix ≠ 0) (hix' : (ix == 0) = false) :
    Calls Try.prog 3 #[.slice a n cap, .int .i64 k, .int .i64 ix] w fun e w' => e = .returned (.bool true) ∧ Below w.heap.size w w' := by
  unfold maxLen at hm
  have t1 : decide (65536 < (n : Int)) = false := decide_eq_false (by omega)
  have t2 : decide ((k : Int) < 0) = false := decide_eq_false (by omega)
  have t3 : decide (n < k) = false := decide_eq_false (by omega)
  obtain ⟨i0, hi, hz0, hz1, hz2⟩ := info_parts Try.info3
  have hb2 : i0.bytes * (n + 1) ≤ 281474976710656 := by rw [hz2]; omega
  go_enter Try.func3, Try.ntmps3
  go_wp2_with (go_at_call 5; refine (bytes5 _ _ _ _ _ _ (by omega)).mono ?_; rintro e w' ⟨rfl, rfl⟩)
  refine (objectOf_any w _ n cap Z (by omega) hR).mono ?_
  rintro e w1 ⟨B1, rfl, o1, b1⟩
  have hR1 := hR.later b1
  have s1 := b1.size
  clear hR
  go_wp2_with (at_make; refine wpList_make_own _ rfl _ _ 22 rfl w1.heap.size 3 i0 (.int .i64 0) 1 Try.underlying22 hi hz0 hz1 _ _ _ (n + 1) rfl rfl (by omega) hb2 (by unfold maxLen; omega) (Nat.le_refl _) ?_)
  intro w2 hown hgrow
  have hM : Mid w1 w2 (n + 1) 0 (ins k ix Z) := ⟨hown, (Below.refl _ _).grown hgrow (Nat.le_refl _) (fun k h => by cases h)⟩
  clear hown hgrow hb2
  go_wp2_with fail
  go_loopw [8, 9] (fun v j wr => ∃ q : Nat, q ≤ k ∧ j = .int .i64 q ∧ v = .slice (some ⟨w1.heap.size, 0, none⟩) q (n + 1) ∧ Mid w1 wr (n + 1) q (ins k ix Z)) (fun _ j _ => k - (intOf j).toNat)
  case atStart => exact ⟨0, Nat.zero_le _, rfl, rfl, hM⟩
  case round =>
    clear hM
    obtain ⟨q, hq, rfl, rfl, hM⟩ := hrel
    by_cases hlt : q < k
    · obtain ⟨b, off, rfl, hb, hcell⟩ := hR1.later hM.2 q (by omega)
      have hlt' : (q : Int) < (n : Int) := by omega
      go_wp2_with (at_builtin; refine wpList_append_fits _ rfl (.tmp 43) (.tmp 48) 22 rfl w1.heap.size 3 i0 1 Try.underlying22 hi hz1 w1.heap.size q (n + 1) _ rfl (hM.1.alloc _) ⟨wr.heap.size, 0, none⟩ 1 1 [.int .i64 (Z q)] rfl rfl (one_new _ _ _) (by simp [Value.oneCell']) (by omega) ?_)
      intro w3 hown hgrow
      have hM3 := mid_step hM (ins_lt hlt) hown hgrow
      clear hown hgrow hM hcell hb
      go_wp2
      go_roundw
      case rel => exact ⟨q + 1, by omega, by go_num, rfl, hM3⟩
      case measure => simp [intOf]; omega
    · obtain rfl : q = k := by omega
      go_wp2_with (at_builtin; refine wpList_append_fits _ rfl (.tmp 50) (.tmp 52) 22 rfl w1.heap.size 3 i0 1 Try.underlying22 hi hz1 w1.heap.size q (n + 1) _ rfl (hM.1.alloc _) ⟨wr.heap.size, 0, none⟩ 1 1 [.int .i64 ix] rfl rfl (one_new _ _ _) (by simp [Value.oneCell']) (by omega) ?_)
      intro w3 hown hgrow
      have hM3 := mid_step hM ins_at hown hgrow
      clear hown hgrow hM
      go_wp2_with fail
      go_loopw [8, 10] (fun v j wr => ∃ p : Nat, q ≤ p ∧ p ≤ n ∧ j = .int .i64 p ∧ v = .slice (some ⟨w1.heap.size, 0, none⟩) (p + 1) (n + 1) ∧ Mid w1 wr (n + 1) (p + 1) (ins q ix Z)) (fun _ j _ => n - (intOf j).toNat)
      case atStart => exact ⟨q, Nat.le_refl _, hkn, rfl, rfl, hM3⟩
      case round =>
        clear hM3
        obtain ⟨p, hqp, hpn, rfl, rfl, hM⟩ := hrel
        by_cases hlp : p < n
        · obtain ⟨b, off, rfl, hb, hcell⟩ := hR1.later hM.2 p (by omega)
          have hlt' : (p : Int) < (n : Int) := by omega
          go_wp2_with (at_builtin; refine wpList_append_fits _ rfl (.tmp 61) (.tmp 66) 22 rfl w1.heap.size 3 i0 1 Try.underlying22 hi hz1 w1.heap.size (p + 1) (n + 1) _ rfl (hM.1.alloc _) ⟨wr.heap.size, 0, none⟩ 1 1 [.int .i64 (Z p)] rfl rfl (one_new _ _ _) (by simp [Value.oneCell']) (by omega) ?_)
          intro w4 hown hgrow
          have hM4 := mid_step hM (ins_gt hqp) hown hgrow
          clear hown hgrow hM hcell hb
          go_wp2
          go_roundw
          case rel => exact ⟨p + 1, by omega, by omega, by go_num, rfl, hM4⟩
          case measure => simp [intOf]; omega
        · obtain rfl : p = n := by omega
          clear hi hz0 hz1 hz2
          have p1 := o1.later hM.2
          have hR2 := hR1.later hM.2
          have hrow := mid_row hM
          have hs2 := hM.2.size
          have b2 : Below w.heap.size w wr := b1.trans (hM.2.mono s1)
          clear hM b1 hR1 o1
          go_wp2_with fail
          refine (objectOf_any wr _ (p + 1) (p + 1) (ins q ix Z) (by omega) hrow).mono ?_
          rintro e w5 ⟨B2, rfl, o2, b5⟩
          have hR3 := hR2.later b5
          have p2 := p1.later b5
          have bb : Below w.heap.size w w5 := b2.trans (b5.mono (by omega))
          clear hR2 p1 b2 b5 hrow hs2 s1
          go_wp2_with fail
          refine (fieldNumber_index w5 B2 (p + 1) (ins q ix Z) _ q ix rfl o2 (by omega) (by omega) ins_at hix).mono ?_
          rintro e w' ⟨rfl, rfl⟩
          go_wp2
          go_loop [13, 14, 15] (fun j _ _ => ∃ r : Nat, r ≤ p ∧ j = .int .i64 r) (fun j _ _ => p - (intOf j).toNat)
          case atStart => exact ⟨0, Nat.zero_le _, rfl⟩
          case round =>
            obtain ⟨r, hr, rfl⟩ := hrel
            by_cases hlr : r < p
            · by_cases hrq : r < q
              · by_cases hz : Z r = 0
                · have HZ : Hid (Z r = 0) := hz
                  clear hz
                  go_wp2_with fail
                  refine (fieldNumber_zero w5 B2 (p + 1) (ins q ix Z) _ r rfl o2 (by omega) (by omega) ((ins_lt hrq).trans HZ.out)).mono ?_
                  rintro e w' ⟨rfl, rfl⟩
                  go_wp2_with fail
                  refine (fieldNumber_zero w5 B1 p Z _ r rfl p2 (by omega) (by omega) HZ.out).mono ?_
                  rintro e w' ⟨rfl, rfl⟩
                  go_wp2
                  go_round
                  case rel => exact ⟨r + 1, by omega, by go_num⟩
                  case measure => simp [intOf]; omega
                · obtain ⟨z, hzz⟩ : ∃ z, Z r = z := ⟨_, rfl⟩
                  have hw : -9223372036854775808 ≤ z ∧ z ≤ 9223372036854775807 := hzz ▸ HZb.out r
                  rw [hzz] at hz
                  have HZ : Hid (Z r = z) := hzz
                  clear hzz
                  have hz' : (z == 0) = false := by simpa using hz
                  go_wp2_with fail
                  refine (fieldNumber_index w5 B2 (p + 1) (ins q ix Z) _ r z rfl o2 (by omega) (by omega) ((ins_lt hrq).trans HZ.out) hz).mono ?_
                  rintro e w' ⟨rfl, rfl⟩
                  go_wp2_with fail
                  refine (fieldNumber_index w5 B1 p Z _ r z rfl p2 (by omega) (by omega) HZ.out hz).mono ?_
                  rintro e w' ⟨rfl, rfl⟩
                  go_wp2
                  go_round
                  case rel => exact ⟨r + 1, by omega, by go_num⟩
                  case measure => simp [intOf]; omega
              · obtain ⟨b, off, rfl, hb, hcell⟩ := hR3 r hlr
                have hlr' : (r : Int) < (p : Int) := by omega
                by_cases hz : Z r = 0
                · have HZ : Hid (Z r = 0) := hz
                  rw [hz] at hcell
                  clear hz
                  go_wp2_with fail
                  refine (fieldNumber_zero w5 B2 (p + 1) (ins q ix Z) _ (r + 1) (by omega) o2 (by omega) (by omega) ((ins_gt (by omega)).trans HZ.out)).mono ?_
                  rintro e w' ⟨rfl, rfl⟩
                  go_wp2_with fail
                  refine (fieldNumber_zero w5 B1 p Z _ r rfl p2 (by omega) (by omega) HZ.out).mono ?_
                  rintro e w' ⟨rfl, rfl⟩
                  go_wp2
                  go_round
                  case rel => exact ⟨r + 1, by omega, by go_num⟩
                  case measure => simp [intOf]; omega
                · obtain ⟨z, hzz⟩ : ∃ z, Z r = z := ⟨_, rfl⟩
                  have hw : -9223372036854775808 ≤ z ∧ z ≤ 9223372036854775807 := hzz ▸ HZb.out r
                  rw [hzz] at hz hcell
                  have HZ : Hid (Z r = z) := hzz
                  clear hzz
                  have hz' : (z == 0) = false := by simpa using hz
                  go_wp2_with fail
                  refine (fieldNumber_index w5 B2 (p + 1) (ins q ix Z) _ (r + 1) z (by omega) o2 (by omega) (by omega) ((ins_gt (by omega)).trans HZ.out) hz).mono ?_
                  rintro e w' ⟨rfl, rfl⟩
                  go_wp2_with fail
                  refine (fieldNumber_index w5 B1 p Z _ r z rfl p2 (by omega) (by omega) HZ.out hz).mono ?_
                  rintro e w' ⟨rfl, rfl⟩
                  go_wp2
                  go_round
                  case rel => exact ⟨r + 1, by omega, by go_num⟩
                  case measure => simp [intOf]; omega
            · go_wp2
              go_ret
              exact ⟨rfl, bb⟩
end Go.Proofs.Qxb6614215a
