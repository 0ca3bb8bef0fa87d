/-
  Seat b6614307a: the walk of FnLogRecordBatchReadsAsItsRecordsAlone.
-/
import Derived.Test.Qxb6614307aNew
import Derived.Test.Qxb6614307aBytes6
import Derived.WalkSpells
import Derived.Laws.CopyOwn
namespace Go.Proofs.Qxb6614307a
open Go.RowKit
set_option linter.unusedVariables false

theorem Try.info9 : (Try.prog.info? 9).map (fun i => (i.zero, i.size, i.bytes)) = some (some (.string ⟨#[]⟩), 1, 16) := by kernel_rfl
theorem Try.size9 : (Try.prog.info? 9).map (·.size) = some 1 := by kernel_rfl

theorem block_of_row {w : World} {base g n : Nat} {e : TypeId} {xs : List Value} (h : w.ownsRow base e 1 (.slice (some ⟨g, 0, none⟩) n n) n xs) : w.heap[g]? = some (.cells xs.toArray e (0, 0)) := by
  obtain ⟨h1, ⟨h2, _⟩ | ⟨g', cap, cur, hv, _, hh, _, _, hs, ht⟩⟩ := h
  · cases h2
  · simp at hv
    obtain ⟨rfl, rfl⟩ := hv
    have e1 : cur.toList = xs := by rw [← ht, List.take_of_length_le (by simp; omega)]
    rw [hh, ← e1]

theorem cell_of_block {w : World} {g : Nat} {xs : List Value} {t : TypeId} (h : w.heap[g]? = some (.cells xs.toArray t (0, 0))) (i : Nat) : w.cell? ⟨g, i, none⟩ = xs[i]? := by
  simp [World.cell?, h]

theorem splice_whole {α : Type} (cur cs : List α) (h : cur.length = cs.length) : splice cur 0 cs = cs := by
  unfold splice
  simp [List.drop_eq_nil_of_le (show cur.length ≤ cs.length by omega)]

/-- The tags, n of them, as cells. -/
def tags (Tg : Nat → ByteArray) (n : Nat) : List Value := (List.range n).map fun i => .string (Tg i)
theorem tags_length (Tg : Nat → ByteArray) (n : Nat) : (tags Tg n).length = n := by simp [tags]
theorem tags_get (Tg : Nat → ByteArray) (n i : Nat) (h : i < n) : (tags Tg n)[i]? = some (.string (Tg i)) := by simp [tags, h]
theorem tags_inv {Tg : Nat → ByteArray} {n i : Nat} {v : Value} (h : (tags Tg n)[i]? = some v) : i < n ∧ v = .string (Tg i) := by
  have hi : i < n := by
    have := (List.getElem?_eq_some_iff.1 h).1
    simpa [tags] using this
  rw [tags_get Tg n i hi] at h
  exact ⟨hi, (Option.some.inj h).symm⟩
theorem tags_one (Tg : Nat → ByteArray) (n : Nat) : ∀ v ∈ tags Tg n, v.oneCell' = true := by
  intro v hv
  obtain ⟨_, _, rfl⟩ := List.mem_map.1 hv
  rfl

/-- The facts that the copy of the tags into a new row asks. -/
theorem copy_facts {w w1 : World} {bx : Addr} {n : Nat} {Tg : Nat → ByteArray} (N : Nat) (hS : Strs w1 (some bx) n Tg) :
    0 < (tags Tg n).length → some (⟨N, 0, none⟩ : Addr) = some ⟨N, 0, none⟩ ∧ ∃ ad, some bx = some ad ∧ ∀ j v, (tags Tg n)[j]? = some v → w1.cell? (ad.add j) = some v := by
  intro _
  refine ⟨rfl, _, rfl, fun j v hj => ?_⟩
  obtain ⟨hj1, rfl⟩ := tags_inv hj
  obtain ⟨b', off', e1, _, e3⟩ := hS j hj1
  simp at e1; subst e1
  rw [Addr.add_lit]; exact e3

/-- The copied tags lie at block N; below it nothing has turned. -/
structure Mine (w wr : World) (N n : Nat) (Tg : Nat → ByteArray) : Prop where
  cell : ∀ i, i < n → wr.cell? ⟨N, i, none⟩ = some (.string (Tg i))
  below : Below w.heap.size w wr
  lt : N < wr.heap.size
  ge : w.heap.size ≤ N

theorem Mine.later {w wr w' : World} {N n : Nat} {Tg : Nat → ByteArray} (h : Mine w wr N n Tg) (hb : Below wr.heap.size wr w') : Mine w w' N n Tg :=
  ⟨fun i hi => (hb.cell (by exact h.lt)).trans (h.cell i hi), h.below.trans (hb.mono h.below.size), Nat.lt_of_lt_of_le h.lt hb.size, h.ge⟩

theorem Mine.strs {w wr : World} {N n : Nat} {Tg : Nat → ByteArray} (h : Mine w wr N n Tg) : Strs wr (some ⟨N, 0, none⟩) n Tg :=
  fun i hi => ⟨_, _, rfl, h.lt, by rw [Nat.zero_add]; exact h.cell i hi⟩

theorem mine_copied {w w2 : World} {n : Nat} {Tg : Nat → ByteArray} (hlt : w.heap.size < w2.heap.size) (hB : Below w.heap.size w w2)
    (h : w2.heap[w.heap.size]? = some (.cells (splice (madeCells #[Value.string ⟨#[]⟩] n).toList 0 (tags Tg n)).toArray 9 (0, 0))) : Mine w w2 w.heap.size n Tg := by
  rw [splice_whole _ _ (by rw [tags_length, toList_madeCells_one]; simp)] at h
  exact ⟨fun i hi => by rw [cell_of_block h i, tags_get Tg _ i hi], hB, hlt, Nat.le_refl _⟩

theorem says_none {w : World} {s : ByteArray} {t : Option Addr} (h : Says w false s t) : t = none := by
  rcases h with h | h
  · exact h.2
  · exact absurd h.1 (by simp)
theorem says_some {w : World} {s : ByteArray} {t : Option Addr} (h : Says w true s t) : ∃ T, t = some ⟨T, 0, none⟩ ∧ w.cell? ⟨T, 0, none⟩ = some (.string s) := by
  rcases h with h | h
  · exact absurd h.1 (by simp)
  · exact h.2

set_option maxRecDepth 100000 in
set_option maxHeartbeats 1000000 in
theorem alone_some (w : World) (rev : Int) (bx : Addr) (n cap : Nat) (Tg : Nat → ByteArray) (hn : n ≤ 65536) (hS : Strs w (some bx) n Tg) :
    Calls Try.prog 3 #[.int .i64 rev, .slice (some bx) n cap] w fun e w' => e = .returned (.bool true) ∧ Below w.heap.size w w' := by
  have hneq := fun w => run_neq_slice_nil_any (P := Try.prog) w 22 9 (some bx) n cap 0 0 Try.underlying22
  obtain ⟨i0, hi, hz0, hz1, hz2⟩ := info_parts Try.info9
  have hb2 : i0.bytes * n ≤ 281474976710656 := by rw [hz2]; omega
  have t1 : decide (65536 < (n : Int)) = false := decide_eq_false (by omega)
  go_enter Try.func3, Try.ntmps3
  go_wp2_with fail
  refine (bytes6 w rev (some bx) n cap Tg hS).mono ?_
  rintro e w' ⟨bo, rfl, hsm, rfl⟩
  cases bo
  · go_wp2
    go_ret
    exact ⟨rfl, Below.refl _ _⟩
  have hsmall : Small n Tg := hsm rfl
  clear hsm
  go_wp2_with (at_make; refine wpList_make_full _ rfl _ _ 22 rfl w.heap.size 9 i0 (.string ⟨#[]⟩) 1 Try.underlying22 hi hz0 hz1 _ _ _ _ n rfl rfl (by omega) (by omega) hb2 (by unfold maxLen; omega) (Nat.le_refl _) ?_)
  intro w1 hown hgrow
  have hblk := block_of_row hown
  have hB1 : Below w.heap.size w w1 := (Below.refl _ _).grown hgrow (Nat.le_refl _) (fun k h => by cases h)
  have HL : Hid ((tags Tg n).length = Nat.min n n) := by show _ = _; rw [tags_length]; exact (Nat.min_self _).symm
  have HP : Hid _ := copy_facts (w := w) w.heap.size (hS.later hB1)
  have HF : Hid (0 + (tags Tg n).length ≤ ((madeCells #[Value.string ⟨#[]⟩] n).toList).length) := by show _ ≤ _; rw [tags_length, toList_madeCells_one]; simp
  have HK : Hid _ := hblk
  have hl1 : w.heap.size < w1.heap.size := (hown.lt _ rfl).2
  clear hblk hown hgrow hi hz0 hz1 hz2 hb2
  go_wp2_with (refine wpList_copy_splice rfl (.tmp 42) (.tmp 43) 22 22 rfl 9 Try.underlying22 Try.size9 _ _ _ _ _ _ rfl rfl w.heap.size 0 _ 9 HK.out (tags Tg n) HL.out HP.out HF.out (tags_one _ _) w.heap.size w1 (Below.refl _ _) (Nat.le_refl _) ?_)
  intro w2 hrow hB2
  have hM2 : Mine w w2 w.heap.size n Tg := mine_copied (Nat.lt_of_lt_of_le hl1 hB2.size) (hB1.trans hB2) hrow.out
  clear hrow HL HP HF HK hB1 hB2 hl1
  go_wp2_with fail
  go_loop [6, 7, 48] (fun z _ c => ∃ (k : Nat) (q : Int), k ≤ n ∧ c = .int .i64 k ∧ z = .int .i64 q ∧ 0 ≤ q ∧ q ≤ 1048576) (fun _ _ c => n - (intOf c).toNat)
  case atStart => exact ⟨0, 0, Nat.zero_le _, rfl, rfl, by omega, by omega⟩
  case round =>
    obtain ⟨k, q, hk, rfl, rfl, hq0, hq1⟩ := hrel
    by_cases hlt : k < n
    · have hlt' : (k : Int) < (n : Int) := by omega
      have ck := hM2.cell k hlt
      have hsk := hsmall k hlt
      by_cases h2 : 1048576 < q + (16 + ((Tg k).size : Int))
      · go_wp2
        go_ret
        exact ⟨rfl, hM2.below⟩
      · go_wp2
        go_round
        case rel => exact ⟨k + 1, _, by omega, by go_num, rfl, by omega, by omega⟩
        case measure => simp [intOf]; omega
    · obtain rfl : k = n := by omega
      clear hS t1
      go_wp2_with fail
      refine (new_batch_ff w2 rev ⟨#[]⟩ ⟨#[]⟩ ⟨w.heap.size, 0, none⟩ k k Tg (by omega) hM2.strs).mono ?_
      rintro e w3 ⟨L, t, u, A, rfl, hlog, hst, hsu, hrec, hb3⟩
      have hM3 := hM2.later hb3
      obtain rfl : t = none := says_none hst
      obtain rfl : u = none := says_none hsu
      clear hM2 hb3 hst hsu
      rcases k with _ | m
      · go_wp2_with fail
        refine (changes_alone w3 L rev none none _ 0 hlog).mono ?_
        rintro e w4 ⟨rfl, rfl⟩
        have hM4 : Mine w (w3.alloc (.cells (recCells none none) 48)) w.heap.size 0 Tg := hM3.later ((Below.refl _ _).alloc (Nat.le_refl _) _)
        clear hM3 hlog
        go_wp2_with fail
        refine (view_none _).mono ?_
        rintro e w5 ⟨rfl, hb5⟩
        have hM5 := hM4.later hb5
        clear hM4 hb5
        go_wp2_with fail
        refine (is_any w5 false false ⟨#[]⟩ ⟨#[]⟩).mono ?_
        rintro e w6 ⟨rfl, rfl⟩
        go_wp2
        go_ret
        exact ⟨rfl, hM5.below⟩
      · have hm0 : ((m : Int) + 1 == 0) = false := beq_eq_false_iff_ne.2 (by omega)
        go_wp2_with fail
        refine (changes_batch w3 L rev _ m _ hlog).mono ?_
        rintro e w4 ⟨rfl, rfl⟩
        clear hlog hneq
        go_wp2_with fail
        go_loopw [16, 17, 18, 19, 20, 21, 22, 23, 24, 25, 26, 27, 28, 29, 101] (fun _ _ _ _ _ _ _ _ _ _ _ _ _ _ c wr => ∃ k : Nat, k ≤ m + 1 ∧ c = .int .i64 k ∧ Mine w wr w.heap.size (m + 1) Tg ∧ ∀ i, i < m + 1 → RecAt wr A i (Tg i)) (fun _ _ _ _ _ _ _ _ _ _ _ _ _ _ c _ => m + 1 - (intOf c).toNat)
        case atStart => exact ⟨0, Nat.zero_le _, rfl, hM3, hrec⟩
        case round =>
          clear hM3 hrec
          obtain ⟨k, hk2, rfl, hM, hR⟩ := hrel
          by_cases hlk : k < m + 1
          · have hlk' : (k : Int) < (m : Int) + 1 := by omega
            have ck := hM.cell k hlk
            go_wp2_with fail
            refine (new_nil wr rev true false (Tg k) ⟨#[]⟩).mono ?_
            rintro e w5 ⟨L1, t1, u1, rfl, hlog1, hst1, hsu1, hb5⟩
            obtain ⟨T1, rfl, hT1⟩ := says_some hst1
            obtain rfl : u1 = none := says_none hsu1
            have hM5 := hM.later hb5
            have hR5 := (hR k hlk).later hb5
            have hRall := fun i hi => (hR i hi).later hb5
            clear hM hR hst1 hsu1 hb5 ck
            go_wp2_with fail
            refine (changes_alone w5 L1 rev (some ⟨T1, 0, none⟩) none _ _ hlog1).mono ?_
            rintro e w6 ⟨rfl, rfl⟩
            have hb6 : Below w5.heap.size w5 (w5.alloc (.cells (recCells (some ⟨T1, 0, none⟩) none) 48)) := (Below.refl _ _).alloc (Nat.le_refl _) _
            have hM6 := hM5.later hb6
            have hRall6 := fun i hi => (hRall i hi).later hb6
            have hlT := block_lt_of_cell hT1
            have hT6 : (w5.alloc (.cells (recCells (some ⟨T1, 0, none⟩) none) 48)).cell? ⟨T1, 0, none⟩ = some (.string (Tg k)) := (hb6.cell (by exact hlT)).trans hT1
            clear hM5 hR5 hRall hb6 hlog1 hT1 hlT
            go_wp2_with fail
            refine (view_tag _ T1 (Tg k) hT6).mono ?_
            rintro e w7 ⟨rfl, hb7⟩
            have hM7 := hM6.later hb7
            have hRall7 := fun i hi => (hRall6 i hi).later hb7
            have ck := hM7.cell k hlk
            clear hM6 hRall6 hT6 hb7
            go_wp2_with fail
            refine (is_any w7 true false (Tg k) ⟨#[]⟩).mono ?_
            rintro e w8 ⟨rfl, rfl⟩
            have hr := hRall7 k hlk
            obtain ⟨b, hAb, q0, hbs⟩ := hr.2
            have q1 : w7.cell? ⟨A, k * 14 + 1, none⟩ = some (.pointer none) := hr.1 1 (by omega) (by omega)
            have q2 : w7.cell? ⟨A, k * 14 + 2, none⟩ = some (.pointer none) := hr.1 2 (by omega) (by omega)
            have q3 : w7.cell? ⟨A, k * 14 + 3, none⟩ = some (.pointer none) := hr.1 3 (by omega) (by omega)
            have q4 : w7.cell? ⟨A, k * 14 + 4, none⟩ = some (.pointer none) := hr.1 4 (by omega) (by omega)
            have q5 : w7.cell? ⟨A, k * 14 + 5, none⟩ = some (.pointer none) := hr.1 5 (by omega) (by omega)
            have q6 : w7.cell? ⟨A, k * 14 + 6, none⟩ = some (.pointer none) := hr.1 6 (by omega) (by omega)
            have q7 : w7.cell? ⟨A, k * 14 + 7, none⟩ = some (.pointer none) := hr.1 7 (by omega) (by omega)
            have q8 : w7.cell? ⟨A, k * 14 + 8, none⟩ = some (.pointer none) := hr.1 8 (by omega) (by omega)
            have q9 : w7.cell? ⟨A, k * 14 + 9, none⟩ = some (.pointer none) := hr.1 9 (by omega) (by omega)
            have q10 : w7.cell? ⟨A, k * 14 + 10, none⟩ = some (.pointer none) := hr.1 10 (by omega) (by omega)
            have q11 : w7.cell? ⟨A, k * 14 + 11, none⟩ = some (.pointer none) := hr.1 11 (by omega) (by omega)
            have q12 : w7.cell? ⟨A, k * 14 + 12, none⟩ = some (.pointer none) := hr.1 12 (by omega) (by omega)
            have q13 : w7.cell? ⟨A, k * 14 + 13, none⟩ = some (.pointer none) := hr.1 13 (by omega) (by omega)
            clear ck hr
            go_wp2_with fail
            refine (view_tag _ b (Tg k) hbs).mono ?_
            rintro e w9 ⟨rfl, hb9⟩
            have hM9 := hM7.later hb9
            have hRall9 := fun i hi => (hRall7 i hi).later hb9
            clear q0 q1 q2 q3 q4 q5 q6 q7 q8 q9 q10 q11 q12 q13 hM7 hRall7 hb9 hbs
            go_wp2_with fail
            refine (is_any w9 true false (Tg k) ⟨#[]⟩).mono ?_
            rintro e w10 ⟨rfl, rfl⟩
            go_wp2
            go_roundw
            case rel => exact ⟨k + 1, by omega, by go_num, hM9, hRall9⟩
            case measure => simp [intOf]; omega
          · go_wp2
            go_ret
            exact ⟨rfl, hM.below⟩
end Go.Proofs.Qxb6614307a
