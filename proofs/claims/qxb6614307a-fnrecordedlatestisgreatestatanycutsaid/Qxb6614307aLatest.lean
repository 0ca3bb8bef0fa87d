/-
  Seat b6614307a: the contracts of ZZrecordedLatest and ZZnewRecorded.
-/
import Derived.Test.Qxb6614307aRows
import Derived.WalkKit
import Derived.ProofKit
import Derived.Below
import Derived.Deep.QuietTactic
import Derived.BigQuiet
namespace Go.Proofs.Qxb6614307a
open Go.RowKit
set_option linter.unusedVariables false

/-- A recorded user of m + 1 revisions lies at block R; the last is z. -/
def Rec (w : World) (R m : Nat) (z : Int) : Prop :=
  ∃ H A, w.cell? ⟨R, 1, none⟩ = some (.pointer (some ⟨H, 0, none⟩)) ∧ w.cell? ⟨H, 0, none⟩ = some (.slice (some ⟨A, 0, none⟩) (m + 1) (m + 1)) ∧ w.cell? ⟨A, m * 2, none⟩ = some (.int .i64 z)

set_option maxHeartbeats 400000 in
theorem latest_any (w : World) (R m : Nat) (z : Int) (hm : m ≤ 1000000) (h : Rec w R m z) :
    Calls Try.prog 13 #[.pointer (some ⟨R, 0, none⟩)] w fun e w' => e = .returned (.int .i64 z) ∧ ∃ q, w' = w.drewN q := by
  obtain ⟨H, A, h1, h2, h3⟩ := h
  have hm1 : (m : Int) < (m : Int) + 1 := by omega
  go_enter Try.func13, Try.ntmps13
  go_wp2
  go_quiet (fail)
  go_wp2
  go_ret
  exact ⟨rfl, nq, rfl⟩

theorem Try.info70 : (Try.prog.info? 70).map (fun i => (i.zero, i.size, i.bytes)) = some (some (.agg #[.int .i64 0, .pointer none]), 2, 16) := by kernel_rfl

/-- The n numbers Z lie where the slice's address leads. -/
def Row (w : World) (a : Option Addr) (n : Nat) (Z : Nat → Int) : Prop :=
  ∀ i, i < n → ∃ b off, a = some ⟨b, off, none⟩ ∧ b < w.heap.size ∧ w.cell? ⟨b, off + i, none⟩ = some (.int .i64 (Z i))

theorem Row.later {w w' : World} {a : Option Addr} {n : Nat} {Z : Nat → Int} (h : Row w a n Z) (hb : Below w.heap.size w w') : Row w' a n Z := by
  intro i hi
  obtain ⟨b, off, h1, h2, h3⟩ := h i hi
  have := hb.size
  exact ⟨b, off, h1, by omega, (hb.cell (by exact h2)).trans h3⟩

/-- The first k of n records are written, at block A. -/
structure Held (w : World) (A n k : Nat) (Z : Nat → Int) : Prop where
  lt : A < w.heap.size
  frozen : ∀ i, i < n * 2 → w.frozen? ⟨A, i, none⟩ = false
  cells : ∀ i, i < n * 2 → (w.cell? ⟨A, i, none⟩).isSome = true
  done : ∀ i, i < k → w.cell? ⟨A, i * 2, none⟩ = some (.int .i64 (Z i))

theorem sc_other {w : World} {A k B j : Nat} {v : Value} (h : A ≠ B ∨ k ≠ j) : (w.setCell ⟨A, k, none⟩ v).cell? ⟨B, j, none⟩ = w.cell? ⟨B, j, none⟩ :=
  World.cell?_setCell_other _ _ _ _ (by intro e; simp at e; omega)

theorem sc_some {w : World} {A k B j : Nat} {v : Value} (h : (w.cell? ⟨B, j, none⟩).isSome = true) : ((w.setCell ⟨A, k, none⟩ v).cell? ⟨B, j, none⟩).isSome = true := by
  by_cases e : A = B ∧ k = j
  · obtain ⟨rfl, rfl⟩ := e
    obtain ⟨u, hu⟩ := Option.isSome_iff_exists.1 h
    rw [World.cell?_setCell_same _ _ _ hu]; rfl
  · rw [sc_other (by omega)]; exact h

theorem held_start {w : World} {A n : Nat} {xs : List Value} (Z : Nat → Int) (h : w.ownsRow A 70 2 (.slice (some ⟨A, 0, none⟩) n n) n xs) : Held w A n 0 Z := by
  refine ⟨(h.lt A rfl).2, fun i hi => h.frozenAt i, fun i hi => ?_, fun i hi => by omega⟩
  rw [h.cellAt i hi]
  have hl := h.1
  simp [hl]; omega

theorem held_step {w : World} {A n k : Nat} {Z : Nat → Int} (h : Held w A n k Z) (hk : k < n) :
    Held ((w.setCell ⟨A, k * 2, none⟩ (.int .i64 (Z k))).setCell ⟨A, k * 2 + 1, none⟩ (.pointer none)) A n (k + 1) Z := by
  refine ⟨by have := h.lt; simp [World.setCell] at this ⊢; omega, fun i hi => ?_, fun i hi => sc_some (sc_some (h.cells i hi)), fun i hi => ?_⟩
  · simpa using h.frozen i hi
  · rw [sc_other (by omega)]
    by_cases hik : i = k
    · subst hik
      obtain ⟨u, hu⟩ := Option.isSome_iff_exists.1 (h.cells (i * 2) (by omega))
      rw [World.cell?_setCell_same _ _ _ hu]
    · rw [sc_other (by omega)]; exact h.done i (by omega)

theorem held_done {w : World} {A m k : Nat} {Z : Nat → Int} (h : Held w A (m + 1) k Z) (hk : m < k) (c0 c1 : Array Value) (t0 t1 : TypeId)
    (h0 : c0[0]? = some (.slice (some ⟨A, 0, none⟩) (m + 1) (m + 1))) (h1 : c1[1]? = some (.pointer (some ⟨w.heap.size, 0, none⟩))) :
    Rec ((w.alloc (.cells c0 t0)).alloc (.cells c1 t1)) (w.heap.size + 1) m (Z m) := by
  have hl := h.lt
  refine ⟨w.heap.size, A, ?_, ?_, ?_⟩
  · rw [World.cell?_alloc_at _ _ _ _ (by simp)]; exact h1
  · rw [World.cell?_alloc_past _ _ _ (by simp), World.cell?_alloc_at _ _ _ _ rfl]; exact h0
  · rw [World.cell?_alloc_past _ _ _ (by simp; omega), World.cell?_alloc_past _ _ _ hl]; exact h.done m hk

set_option maxHeartbeats 400000 in
theorem newRecorded_any (w : World) (s : ByteArray) (a : Option Addr) (m cap : Nat) (Z : Nat → Int) (hm : m ≤ 1000000) (hR : Row w a (m + 1) Z) :
    Calls Try.prog 14 #[.string s, .slice a (m + 1) cap] w fun e w' => ∃ R, e = .returned (.pointer (some ⟨R, 0, none⟩)) ∧ Rec w' R m (Z m) ∧ Below w.heap.size w w' := by
  have Hc : Hid _ := hR
  clear hR
  obtain ⟨i0, hi, hz0, hz1, hz2⟩ := info_parts Try.info70
  have hb2 : i0.bytes * (m + 1) ≤ 281474976710656 := by rw [hz2]; omega
  go_enter Try.func14, Try.ntmps14
  go_wp2_with (at_make; refine wpList_make_full _ rfl _ _ 65 rfl w.heap.size 70 i0 (.agg #[.int .i64 0, .pointer none]) 2 Try.underlying65 hi hz0 hz1 _ _ _ _ (m + 1) rfl rfl (by omega) (by omega) hb2 (by unfold maxLen; omega) (Nat.le_refl _) ?_)
  intro w1 hown hgrow
  clear hi hz0 hz1 hz2 hb2
  have hP : Held w1 w.heap.size (m + 1) 0 Z := held_start Z hown
  have hB : Below w.heap.size w w1 := (Below.refl _ _).grown hgrow (Nat.le_refl _) (fun k h => by cases h)
  clear hown hgrow
  go_wp2
  go_loopw [6, 12] (fun _ i wr => ∃ k : Nat, k ≤ m + 1 ∧ i = .int .i64 k ∧ Held wr w.heap.size (m + 1) k Z ∧ Below w.heap.size w wr) (fun _ i _ => m + 1 - (intOf i).toNat)
  case atStart => exact ⟨0, Nat.zero_le _, rfl, hP, hB⟩
  case round =>
    clear hP hB
    obtain ⟨k, hk, rfl, hP, hB⟩ := hrel
    have h1 := hP.1
    by_cases hlt : k < m + 1
    · obtain ⟨b, off, rfl, hb, hcell⟩ := Row.later Hc.out (hB.mono (Nat.le_refl _)) k hlt
      have hlt' : (k : Int) < (m : Int) + 1 := by omega
      obtain ⟨v0, hv0⟩ := Option.isSome_iff_exists.1 (hP.cells (k * 2) (by omega))
      obtain ⟨v1, hv1⟩ := Option.isSome_iff_exists.1 (hP.cells (k * 2 + 1) (by omega))
      have f0 := hP.frozen (k * 2) (by omega)
      have f1 := hP.frozen (k * 2 + 1) (by omega)
      go_wp2
      go_roundw
      case rel => exact ⟨k + 1, by omega, by go_num, held_step hP hlt, (hB.setCell (Nat.le_refl _) _).setCell (Nat.le_refl _) _⟩
      case measure => simp [intOf]; omega
    · go_wp2
      go_ret
      exact ⟨wr.heap.size + 1, rfl, held_done hP (by omega) _ _ _ _ rfl rfl, (hB.alloc (by omega) _).alloc (by simp; omega) _⟩
end Go.Proofs.Qxb6614307a
