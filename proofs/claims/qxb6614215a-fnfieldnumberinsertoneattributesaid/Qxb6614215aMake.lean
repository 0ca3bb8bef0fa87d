/-
  Seat b6614215a: the contract of b1ObjectOfIndices: it lays an object with just these indices, in new memory.
-/
import Derived.Test.Qxb6614215aObj
namespace Go.Proofs.Qxb6614215a
open Go.RowKit
set_option linter.unusedVariables false

theorem Try.info29 : (Try.prog.info? 29).map (fun i => (i.zero, i.size, i.bytes)) = some (some (.pointer none), 1, 8) := by kernel_rfl

/-- The first k of n entries are made; their row lies at block A. -/
def Part (w : World) (A n k : Nat) (Z : Nat → Int) : Prop :=
  A < w.heap.size ∧ (∀ i, i < n → w.frozen? ⟨A, i, none⟩ = false) ∧ (∀ i, k ≤ i → i < n → w.cell? ⟨A, i, none⟩ = some (.pointer none)) ∧
    ∀ i, i < k → ∃ b, A < b ∧ b < w.heap.size ∧ w.cell? ⟨A, i, none⟩ = some (.pointer (some ⟨b, 0, none⟩)) ∧ w.cell? ⟨b, 3, none⟩ = some (.int .i64 (Z i))

theorem part_start {w w1 : World} {base n : Nat} (Z : Nat → Int) (h : w1.ownsRow base 29 1 (.slice (some ⟨base, 0, none⟩) n n) n (madeCells #[Value.pointer none] n).toList) : Part w1 base n 0 Z := by
  rw [toList_madeCells_one] at h
  refine ⟨(h.lt base rfl).2, fun i hi => h.frozenAt i, fun i _ hi => ?_, fun i hi => by omega⟩
  rw [h.cellAt i (by omega), List.getElem?_replicate, if_pos hi]

theorem sc_other {w : World} {A k B j : Nat} {v : Value} (h : A ≠ B ∨ k ≠ j) : (w.setCell ⟨A, k, none⟩ v).cell? ⟨B, j, none⟩ = w.cell? ⟨B, j, none⟩ :=
  World.cell?_setCell_other _ _ _ _ (by intro e; simp at e; omega)

theorem part_step {w : World} {A n k : Nat} {Z : Nat → Int} (h : Part w A n k Z) (hk : k < n) (cs : Array Value) (t : TypeId) (h3 : cs[3]? = some (.int .i64 (Z k))) :
    Part ((w.setCell ⟨A, k, none⟩ (.pointer (some ⟨w.heap.size, 0, none⟩))).alloc (.cells cs t)) A n (k + 1) Z := by
  obtain ⟨h1, h2, h4, h5⟩ := h
  have hs : (w.setCell ⟨A, k, none⟩ (.pointer (some ⟨w.heap.size, 0, none⟩))).heap.size = w.heap.size := by simp [World.setCell]
  have hA : A < (w.setCell ⟨A, k, none⟩ (.pointer (some ⟨w.heap.size, 0, none⟩))).heap.size := by omega
  refine ⟨by simp; omega, fun i hi => ?_, fun i hki hi => ?_, fun i hi => ?_⟩
  · rw [World.frozen?_alloc_past _ _ _ hA, World.frozen?_setCell]; exact h2 i hi
  · rw [World.cell?_alloc_past _ _ _ hA, sc_other (by omega)]; exact h4 i (by omega) hi
  · by_cases hik : i = k
    · subst hik
      refine ⟨w.heap.size, h1, by simp [hs], ?_, ?_⟩
      · rw [World.cell?_alloc_past _ _ _ hA]; exact World.cell?_setCell_same _ _ _ (h4 i (Nat.le_refl _) hk)
      · rw [World.cell?_alloc_at _ _ _ _ hs.symm]; exact h3
    · obtain ⟨b, k0, k1, k2, k3⟩ := h5 i (by omega)
      refine ⟨b, k0, by simp; omega, ?_, ?_⟩
      · rw [World.cell?_alloc_past _ _ _ hA, sc_other (by omega)]; exact k2
      · rw [World.cell?_alloc_past _ _ _ (by omega), sc_other (by omega)]; exact k3

theorem part_done {w : World} {A n k : Nat} {Z : Nat → Int} (h : Part w A n k Z) (hk : ¬ k < n) (cs : Array Value) (t : TypeId) (h0 : cs[0]? = some (.slice (some ⟨A, 0, none⟩) n n)) :
    Obj (w.alloc (.cells cs t)) w.heap.size n Z := by
  obtain ⟨h1, h2, h4, h5⟩ := h
  refine ⟨by simp, A, by simp; omega, ?_, fun i hi => ?_⟩
  · rw [World.cell?_alloc_at _ _ _ _ rfl]; exact h0
  · obtain ⟨b, k0, k1, k2, k3⟩ := h5 i (by omega)
    exact ⟨b, by simp; omega, by rw [World.cell?_alloc_past _ _ _ h1]; exact k2, by rw [World.cell?_alloc_past _ _ _ k1]; exact k3⟩

set_option maxHeartbeats 400000 in
theorem objectOf_any (w : World) (a : Option Addr) (n cap : Nat) (Z : Nat → Int) (hn : n ≤ 65537)
    (hc : ∀ i, i < n → ∃ b off, a = some ⟨b, off, none⟩ ∧ b < w.heap.size ∧ w.cell? ⟨b, off + i, none⟩ = some (.int .i64 (Z i))) :
    Calls Try.prog 6 #[.slice a n cap] w fun e w' => ∃ B, e = .returned (.pointer (some ⟨B, 0, none⟩)) ∧ Obj w' B n Z ∧ Below w.heap.size w w' := by
  have Hc : Hid _ := hc
  clear hc
  obtain ⟨i0, hi, hz0, hz1, hz2⟩ := info_parts Try.info29
  have hb2 : i0.bytes * n ≤ 281474976710656 := by rw [hz2]; omega
  go_enter Try.func6, Try.ntmps6
  go_wp2_with (at_make; refine wpList_make_full _ rfl _ _ 28 rfl w.heap.size 29 i0 (.pointer none) 1 Try.underlying28 hi hz0 hz1 _ _ _ _ n rfl rfl rfl rfl hb2 (by unfold maxLen; omega) (Nat.le_refl _) ?_)
  intro w1 hown hgrow
  clear hi hz0 hz1 hz2 hb2
  have hP : Part w1 w.heap.size n 0 Z := part_start (w := w) Z hown
  have hB : Below w.heap.size w w1 := (Below.refl _ _).grown hgrow (Nat.le_refl _) (fun k h => by cases h)
  clear hown hgrow
  go_wp2
  go_loopw [4] (fun i wr => ∃ k : Nat, k ≤ n ∧ i = .int .i64 k ∧ Part wr w.heap.size n k Z ∧ Below w.heap.size w wr) (fun i _ => n - (intOf i).toNat)
  case atStart => exact ⟨0, Nat.zero_le _, rfl, hP, hB⟩
  case round =>
    clear hP hB
    obtain ⟨k, hk, rfl, hP, hB⟩ := hrel
    have h1 := hP.1
    by_cases hlt : k < n
    · obtain ⟨b, off, rfl, hb, hcell⟩ := Hc.out k hlt
      have hcr : wr.cell? ⟨b, off + k, none⟩ = some (.int .i64 (Z k)) := (hB.cell (by exact hb)).trans hcell
      have hca : wr.cell? ⟨w.heap.size, k, none⟩ = some (.pointer none) := hP.2.2.1 k (Nat.le_refl _) hlt
      have hfa : wr.frozen? ⟨w.heap.size, k, none⟩ = false := hP.2.1 k hlt
      have hlt' : (k : Int) < (n : Int) := by omega
      clear hcell
      go_wp2
      go_roundw
      case rel => exact ⟨k + 1, by omega, by go_num, part_step hP hlt _ _ rfl, (hB.setCell (Nat.le_refl _) _).alloc (by simp [World.setCell]; omega) _⟩
      case measure => simp [intOf]; omega
    · go_wp2
      go_ret
      exact ⟨wr.heap.size, rfl, part_done hP hlt _ _ rfl, hB.alloc (by omega) _⟩
end Go.Proofs.Qxb6614215a
