/-
  Seat b6614307a: the walk of FnRecordedLatestIsGreatestAtAnyCut, on the ways that come to the copy.
-/
import Derived.Test.Qxb6614307aLatest
import Derived.WalkSpells
import Derived.Laws.CopyOwn
namespace Go.Proofs.Qxb6614307a
open Go.RowKit
set_option linter.unusedVariables false

theorem Try.info2 : (Try.prog.info? 2).map (fun i => (i.zero, i.size, i.bytes)) = some (some (.int .i64 0), 1, 8) := by kernel_rfl
theorem Try.size2 : (Try.prog.info? 2).map (·.size) = some 1 := by kernel_rfl

theorem row_block {w : World} {base g n : Nat} {e : TypeId} {xs : List Value} (h : w.ownsRow base e 1 (.slice (some ⟨g, 0, none⟩) n n) n xs) : w.heap[g]? = some (.cells xs.toArray e (0, 0)) := by
  obtain ⟨h1, ⟨h2, _⟩ | ⟨g', cap, cur, hv, _, hh, _, _, hs, ht⟩⟩ := h
  · cases h2
  · simp at hv
    obtain ⟨rfl, rfl⟩ := hv
    have e1 : cur.toList = xs := by rw [← ht, List.take_of_length_le (by simp; omega)]
    rw [hh, ← e1]

theorem cell_block {w : World} {g : Nat} {xs : List Value} {t : TypeId} (h : w.heap[g]? = some (.cells xs.toArray t (0, 0))) (i : Nat) : w.cell? ⟨g, i, none⟩ = xs[i]? := by
  simp [World.cell?, h]

theorem splice_all {α : Type} (cur cs : List α) (h : cur.length = cs.length) : splice cur 0 cs = cs := by
  unfold splice
  simp [List.drop_eq_nil_of_le (show cur.length ≤ cs.length by omega)]

/-- The numbers Z, n of them, as cells. -/
def nums (Z : Nat → Int) (n : Nat) : List Value := (List.range n).map fun i => .int .i64 (Z i)
theorem nums_length (Z : Nat → Int) (n : Nat) : (nums Z n).length = n := by simp [nums]
theorem nums_get (Z : Nat → Int) (n i : Nat) (h : i < n) : (nums Z n)[i]? = some (.int .i64 (Z i)) := by simp [nums, h]
theorem nums_inv {Z : Nat → Int} {n i : Nat} {v : Value} (h : (nums Z n)[i]? = some v) : i < n ∧ v = .int .i64 (Z i) := by
  have hi : i < n := by
    have := (List.getElem?_eq_some_iff.1 h).1
    simpa [nums] using this
  rw [nums_get Z n i hi] at h
  exact ⟨hi, (Option.some.inj h).symm⟩
theorem nums_one (Z : Nat → Int) (n : Nat) : ∀ v ∈ nums Z n, v.oneCell' = true := by
  intro v hv
  obtain ⟨_, _, rfl⟩ := List.mem_map.1 hv
  rfl

theorem bytes12 (w : World) (s : ByteArray) (a : Option Addr) (n cap : Nat) (c : Int) (hs : s.size + n ≤ 1048576) :
    Calls Try.prog 12 #[.string s, .slice a n cap, .int .i64 c] w fun e w' => e = .returned (.bool true) ∧ w = w' := by
  go_enter Try.func12, Try.ntmps12
  go_wp2
  go_ret
  exact ⟨rfl, rfl⟩

/-- The copied row lies at block N = w.heap.size; below it nothing has turned. -/
structure Mine (w wr : World) (n : Nat) (Z : Nat → Int) : Prop where
  cell : ∀ i, i < n → wr.cell? ⟨w.heap.size, i, none⟩ = some (.int .i64 (Z i))
  below : Below w.heap.size w wr
  lt : w.heap.size < wr.heap.size

theorem Mine.drewN {w wr : World} {n : Nat} {Z : Nat → Int} (h : Mine w wr n Z) (q : Nat) : Mine w (wr.drewN q) n Z :=
  ⟨h.cell, ⟨h.below.os, h.below.tape, h.below.output, h.below.size, h.below.block⟩, h.lt⟩

theorem Mine.later {w wr w' : World} {n : Nat} {Z : Nat → Int} (h : Mine w wr n Z) (hb : Below wr.heap.size wr w') : Mine w w' n Z :=
  ⟨fun i hi => (hb.cell (by exact h.lt)).trans (h.cell i hi), h.below.trans (hb.mono (Nat.le_of_lt h.lt)), Nat.lt_of_lt_of_le h.lt hb.size⟩

theorem Mine.row {w wr : World} {n : Nat} {Z : Nat → Int} (h : Mine w wr n Z) (c k : Nat) (hk : c + k ≤ n) : Row wr (some ⟨w.heap.size, c, none⟩) k (fun i => Z (c + i)) :=
  fun i hi => ⟨_, _, rfl, h.lt, h.cell (c + i) (by omega)⟩

theorem newRecorded_len (w : World) (s : ByteArray) (a : Option Addr) (n m cap : Nat) (Z : Nat → Int) (hn : n = m + 1) (hm : m ≤ 1000000) (hR : Row w a n Z) (z : Int) (hz : Z m = z) :
    Calls Try.prog 14 #[.string s, .slice a n cap] w fun e w' => ∃ R, e = .returned (.pointer (some ⟨R, 0, none⟩)) ∧ Rec w' R m z ∧ Below w.heap.size w w' := by
  subst hn; subst hz
  exact newRecorded_any w s a m cap Z hm hR

theorem lt_of_steps {Z : Nat → Int} {m : Nat} (h : ∀ t, t < m → Z t < Z (t + 1)) : ∀ d i, i + d + 1 ≤ m → Z i < Z (i + d + 1) := by
  intro d
  induction d with
  | zero => intro i hi; exact h i (by omega)
  | succ d ih =>
    intro i hi
    have h1 := ih i (by omega)
    have h2 := h (i + d + 1) (by omega)
    have e : i + (d + 1) + 1 = i + d + 1 + 1 := by omega
    rw [e]; omega

set_option maxRecDepth 100000 in
set_option maxHeartbeats 1000000 in
theorem great_core (w : World) (s : ByteArray) (b off m cap : Nat) (Z : Nat → Int) (cut : Int) (hs : s.size + 8 * (m + 1) ≤ 1048576) (hR : Row w (some ⟨b, off, none⟩) (m + 1) Z) :
    Calls Try.prog 5 #[.string s, .slice (some ⟨b, off, none⟩) (m + 1) cap, .int .i64 cut] w fun e w' => e = .returned (.bool true) ∧ Below w.heap.size w w' := by
  have hneq := fun w => run_neq_slice_nil_any (P := Try.prog) w 51 2 (some ⟨b, off, none⟩) (m + 1) cap 0 0 Try.underlying51
  obtain ⟨i0, hi, hz0, hz1, hz2⟩ := info_parts Try.info2
  have hb2 : i0.bytes * (m + 1) ≤ 281474976710656 := by rw [hz2]; omega
  have t0 : ((m : Int) + 1 == 0) = false := beq_eq_false_iff_ne.2 (by omega)
  have t1 : decide (1048576 < (s.size : Int)) = false := decide_eq_false (by omega)
  have t2 : decide (131072 < (m : Int) + 1) = false := decide_eq_false (by omega)
  have t3 : decide (1048576 < (s.size : Int) + 8 * ((m : Int) + 1)) = false := decide_eq_false (by omega)
  have hb12 : s.size + (m + 1) ≤ 1048576 := by omega
  have HB : Hid (s.size + (m + 1) ≤ 1048576) := hb12
  have hm0 : (m : Int) ≤ 131071 := by omega
  have hs0 : (s.size : Int) ≤ 1048576 := by omega
  have hm1 : m ≤ 1000000 := by omega
  clear hs hb12
  go_enter Try.func5, Try.ntmps5
  go_wp2_with (first | (go_at_call 12; refine (bytes12 _ _ _ _ _ _ HB.out).mono ?_; rintro e w' ⟨rfl, rfl⟩) | (at_make; refine wpList_make_full _ rfl _ _ 51 rfl w.heap.size 2 i0 (.int .i64 0) 1 Try.underlying51 hi hz0 hz1 _ _ _ _ (m + 1) rfl rfl (by omega) (by omega) hb2 (by unfold maxLen; omega) (Nat.le_refl _) ?_))
  intro w1 hown hgrow
  have hblk := row_block hown
  have hB1 : Below w.heap.size w w1 := (Below.refl _ _).grown hgrow (Nat.le_refl _) (fun k h => by cases h)
  have hR1 := hR.later hB1
  have hlen : (nums Z (m + 1)).length = Nat.min (m + 1) (m + 1) := by rw [nums_length]; exact (Nat.min_self _).symm
  have hpos : 0 < (nums Z (m + 1)).length → some (⟨w.heap.size, 0, none⟩ : Addr) = some ⟨w.heap.size, 0, none⟩ ∧ ∃ ad, some (⟨b, off, none⟩ : Addr) = some ad ∧ ∀ j v, (nums Z (m + 1))[j]? = some v → w1.cell? (ad.add j) = some v := by
    intro _
    refine ⟨rfl, _, rfl, fun j v hj => ?_⟩
    obtain ⟨hj1, rfl⟩ := nums_inv hj
    obtain ⟨b', off', e1, _, e3⟩ := hR1 j hj1
    simp at e1; obtain ⟨rfl, rfl⟩ := e1
    rw [Addr.add_lit]; exact e3
  have hfit : 0 + (nums Z (m + 1)).length ≤ ((madeCells #[Value.int .i64 0] (m + 1)).toList).length := by rw [nums_length, toList_madeCells_one]; simp
  have HL : Hid _ := hlen
  have HP : Hid _ := hpos
  have HF : Hid _ := hfit
  have HK : Hid _ := hblk
  clear hlen hpos hfit hblk hown hgrow hR hR1 hi hz0 hz1 hz2 hb2
  go_wp2_with (refine wpList_copy_splice rfl (.tmp 44) (.tmp 45) 51 51 rfl 2 Try.underlying51 Try.size2 _ _ _ _ _ _ rfl rfl w.heap.size 0 _ 2 HK.out (nums Z (m + 1)) HL.out HP.out HF.out (nums_one _ _) w.heap.size w hB1 (Nat.le_refl _) ?_)
  intro w2 hrow hB2
  have hcells : ∀ i, i < m + 1 → w2.cell? ⟨w.heap.size, i, none⟩ = some (.int .i64 (Z i)) := by
    have e := hrow.out
    rw [splice_all _ _ (by rw [nums_length, toList_madeCells_one]; simp)] at e
    intro i hi
    rw [cell_block e i, nums_get Z _ i hi]
  have hM2 : Mine w w2 (m + 1) Z := ⟨hcells, hB2, block_lt_of_cell (hcells 0 (by omega))⟩
  clear hrow HL HF HK HP hcells hB1 hB2
  go_wp2_with fail
  go_loopw [8] (fun i wr => ∃ j : Nat, j ≤ m ∧ i = .int .i64 ((j : Int) + 1) ∧ Hid (∀ t, t < j → Z t < Z (t + 1)) ∧ Mine w wr (m + 1) Z) (fun i _ => m + 1 - (intOf i).toNat)
  case atStart => exact ⟨0, Nat.zero_le _, rfl, fun t ht => by omega, hM2⟩
  case round =>
    clear hM2
    obtain ⟨j, hj, rfl, hmono, hM⟩ := hrel
    by_cases hlt : j < m
    · have hlt1 : (j : Int) + 1 < (m : Int) + 1 := by omega
      have hlt0 : (j : Int) < (m : Int) + 1 := by omega
      have c1 := hM.cell (j + 1) (by omega)
      have c0 := hM.cell j (by omega)
      by_cases hle : Z (j + 1) ≤ Z j
      · go_wp2_with fail
        go_quiet (fail)
        go_wp2
        go_ret
        exact ⟨rfl, (hM.drewN nq).below⟩
      · go_wp2_with fail
        go_quiet (fail)
        go_wp2
        go_roundw
        case rel => exact ⟨j + 1, by omega, by go_num, fun t ht => by
          by_cases e : t = j
          · subst e; omega
          · exact hmono.out t (by omega), hM.drewN nq⟩
        case measure => simp [intOf] <;> omega
    · obtain rfl : j = m := by omega
      have c00 := hM.cell 0 (by omega)
      have hp0 : (0 : Int) < (j : Int) + 1 := by omega
      go_wp2_with fail
      go_loop [9, 10, 69] (fun g _ c => ∃ k : Nat, k ≤ j + 1 ∧ c = .int .i64 k ∧ g = .int .i64 (Z (k - 1))) (fun _ _ c => j + 1 - (intOf c).toNat)
      case atStart => exact ⟨0, Nat.zero_le _, rfl, rfl⟩
      case round =>
        obtain ⟨k, hk, rfl, rfl⟩ := hrel
        by_cases hlk : k < j + 1
        · have ck := hM.cell k hlk
          have hlk' : (k : Int) < (j : Int) + 1 := by omega
          rcases k with _ | k
          · go_wp2
            go_round
            case rel => exact ⟨1, by omega, rfl, rfl⟩
            case measure => simp [intOf] <;> omega
          · have hst := hmono.out k (by omega)
            go_wp2
            go_round
            case rel => exact ⟨k + 1 + 1, by omega, by go_num, rfl⟩
            case measure => simp [intOf] <;> omega
        · obtain rfl : k = j + 1 := by omega
          clear t0 t1 t2 t3 c00
          go_wp2_with fail
          refine (newRecorded_len wr s _ (j + 1) j (j + 1) Z rfl hm1 (by have := hM.row 0 (j + 1) (by omega); simpa using this) (Z j) rfl).mono ?_
          rintro e w4 ⟨R1, rfl, hr1, hb4⟩
          have hM4 := hM.later hb4
          clear hM hb4
          go_wp2_with fail
          refine (latest_any w4 R1 j (Z j) hm1 hr1).mono ?_
          rintro e w5 ⟨rfl, q5, rfl⟩
          have hM5 := hM4.drewN q5
          clear hM4 hr1
          generalize w4.drewN q5 = w5 at *
          by_cases hc1 : 0 < cut
          · by_cases hc2 : cut < (j : Int) + 1
            · obtain ⟨c, rfl⟩ : ∃ c : Nat, cut = (c : Int) + 1 := ⟨(cut - 1).toNat, by omega⟩
              obtain ⟨d, rfl⟩ : ∃ d, j = c + 1 + d := ⟨j - (c + 1), by omega⟩
              have c00 := hM5.cell 0 (by omega)
              go_wp2_with fail
              go_loop [12, 13] (fun g i => ∃ k : Nat, k ≤ c + 1 ∧ i = .int .i64 k ∧ g = .int .i64 (Z (k - 1))) (fun _ i => c + 1 - (intOf i).toNat)
              case atStart => exact ⟨0, Nat.zero_le _, rfl, rfl⟩
              case round =>
                obtain ⟨k, hk3, rfl, rfl⟩ := hrel
                by_cases hlk3 : k < c + 1
                · have ck := hM5.cell k (by omega)
                  have hlk' : (k : Int) < (c : Int) + 1 + (d : Int) + 1 := by omega
                  rcases k with _ | k
                  · go_wp2
                    go_round
                    case rel => exact ⟨1, by omega, rfl, rfl⟩
                    case measure => simp [intOf] <;> omega
                  · have hst := hmono.out k (by omega)
                    go_wp2
                    go_round
                    case rel => exact ⟨k + 1 + 1, by omega, by go_num, rfl⟩
                    case measure => simp [intOf] <;> omega
                · obtain rfl : k = c + 1 := by omega
                  have hne : ¬ c + 1 + d + 1 = c + 1 := by omega
                  go_wp2_with fail
                  refine (newRecorded_len w5 s _ (c + 1 + d - c) d _ (fun i => Z (c + 1 + i)) (by omega) (by omega) (hM5.row (c + 1) _ (by omega)) (Z (c + 1 + d)) rfl).mono ?_
                  rintro e w6 ⟨R2, rfl, hr2, hb6⟩
                  have hM6 := hM5.later hb6
                  clear hM5 hb6
                  go_wp2_with fail
                  refine (latest_any w6 R2 d (Z (c + 1 + d)) (by omega) hr2).mono ?_
                  rintro e w7 ⟨rfl, q7, rfl⟩
                  have hM7 := hM6.drewN q7
                  clear hM6 hr2
                  generalize w6.drewN q7 = w7 at *
                  go_wp2_with fail
                  refine (newRecorded_len w7 s _ (c + 1) c _ Z rfl (by omega) (by have := hM7.row 0 (c + 1) (by omega); simpa using this) (Z c) rfl).mono ?_
                  rintro e w8 ⟨R3, rfl, hr3, hb8⟩
                  have hM8 := hM7.later hb8
                  clear hM7 hb8
                  go_wp2_with fail
                  refine (latest_any w8 R3 c (Z c) (by omega) hr3).mono ?_
                  rintro e w9 ⟨rfl, q9, rfl⟩
                  have hM9 := hM8.drewN q9
                  have hlast := lt_of_steps hmono.out d c (by omega)
                  have hlast' : Z c < Z (c + 1 + d) := by rw [show c + 1 + d = c + d + 1 by omega]; exact hlast
                  clear hM8 hr3 hlast
                  generalize w8.drewN q9 = w9 at *
                  go_wp2
                  go_ret
                  exact ⟨rfl, hM9.below⟩
            · go_wp2
              go_ret
              exact ⟨rfl, hM5.below⟩
          · go_wp2
            go_ret
            exact ⟨rfl, hM5.below⟩
end Go.Proofs.Qxb6614307a
