/-
  Seat b6614412a: ListSize.
-/
import Derived.Test.Qxb6614412aPut
namespace Go.Proofs.Qxb6614412a
open Go.RowKit
set_option linter.unusedVariables false

set_option maxHeartbeats 1000000 in
theorem size_short (w : World) (s : Int) (h0 : 0 ≤ s) (h1 : s < 56) :
    Calls Try.prog 4 #[.int .i64 s] w fun e w' => e = .returned (.int .i64 (1 + s)) ∧ Below w.heap.size w w' := by
  go_enter Try.func4, Try.ntmps4
  go_wp2
  go_ret
  exact ⟨rfl, ((Below.refl _ _).alloc (Nat.le_refl _) _).alloc (by simp) _⟩

theorem size_set (w : World) (a : Addr) (v : Value) : (w.setCell a v).heap.size = w.heap.size := by simp [World.setCell]

theorem eight_new (w : World) (B : Nat) (hB : B = w.heap.size) (t : TypeId) : Eight (w.alloc (.cells #[.int .u8 0, .int .u8 0, .int .u8 0, .int .u8 0, .int .u8 0, .int .u8 0, .int .u8 0, .int .u8 0] t)) B := by
  refine ⟨fun i hi => ⟨0, ?_⟩, fun i hi => World.frozen?_alloc_at _ _ _ _ hB⟩
  rw [World.cell?_alloc_at _ _ _ _ hB]
  match i, hi with
  | 0, _ => rfl
  | 1, _ => rfl
  | 2, _ => rfl
  | 3, _ => rfl
  | 4, _ => rfl
  | 5, _ => rfl
  | 6, _ => rfl
  | 7, _ => rfl

theorem at_range {V k : Nat} (h : At V k 0) (hV : 0 < V) : k = 1 ∨ k = 2 ∨ k = 3 ∨ k = 4 ∨ k = 5 ∨ k = 6 ∨ k = 7 ∨ k = 8 := by
  obtain ⟨h1, h2, _⟩ := h
  by_cases e : k = 0
  · subst e; simp at h2; omega
  · omega

set_option maxHeartbeats 4000000 in
theorem size_long (w : World) (s : Nat) (h0 : 56 ≤ (s : Int)) (h1 : (s : Int) ≤ 9223372036854775807) :
    Calls Try.prog 4 #[.int .i64 s] w fun e w' => ∃ k : Nat, e = .returned (.int .i64 (wrap64 (1 + k + s))) ∧ At s k 0 ∧ Below w.heap.size w w' := by
  go_enter Try.func4, Try.ntmps4
  go_wp2_with (first | (go_at_call 6; go_in))
  refine (put_any _ (w.heap.size + 1) s h1 (eight_new _ _ (by simp) _)).mono ?_
  rintro e w2 ⟨k, rfl, hA, hE2, hs2, hb2⟩
  simp only [World.size_alloc] at hs2
  have d0 : w2.cell? ⟨w.heap.size, 0, none⟩ = some (.int .u8 0) := (hb2.cell (by show w.heap.size < w.heap.size + 1; omega)).trans (by simp)
  have f0 : w2.frozen? ⟨w.heap.size, 0, none⟩ = false := (hb2.frozen (by show w.heap.size < w.heap.size + 1; omega)).trans (by simp)
  have d1 : w2.cell? ⟨w.heap.size, 1, none⟩ = some (.int .u8 0) := (hb2.cell (by show w.heap.size < w.heap.size + 1; omega)).trans (by simp)
  have f1 : w2.frozen? ⟨w.heap.size, 1, none⟩ = false := (hb2.frozen (by show w.heap.size < w.heap.size + 1; omega)).trans (by simp)
  have d2 : w2.cell? ⟨w.heap.size, 2, none⟩ = some (.int .u8 0) := (hb2.cell (by show w.heap.size < w.heap.size + 1; omega)).trans (by simp)
  have f2 : w2.frozen? ⟨w.heap.size, 2, none⟩ = false := (hb2.frozen (by show w.heap.size < w.heap.size + 1; omega)).trans (by simp)
  have d3 : w2.cell? ⟨w.heap.size, 3, none⟩ = some (.int .u8 0) := (hb2.cell (by show w.heap.size < w.heap.size + 1; omega)).trans (by simp)
  have f3 : w2.frozen? ⟨w.heap.size, 3, none⟩ = false := (hb2.frozen (by show w.heap.size < w.heap.size + 1; omega)).trans (by simp)
  have d4 : w2.cell? ⟨w.heap.size, 4, none⟩ = some (.int .u8 0) := (hb2.cell (by show w.heap.size < w.heap.size + 1; omega)).trans (by simp)
  have f4 : w2.frozen? ⟨w.heap.size, 4, none⟩ = false := (hb2.frozen (by show w.heap.size < w.heap.size + 1; omega)).trans (by simp)
  have d5 : w2.cell? ⟨w.heap.size, 5, none⟩ = some (.int .u8 0) := (hb2.cell (by show w.heap.size < w.heap.size + 1; omega)).trans (by simp)
  have f5 : w2.frozen? ⟨w.heap.size, 5, none⟩ = false := (hb2.frozen (by show w.heap.size < w.heap.size + 1; omega)).trans (by simp)
  have d6 : w2.cell? ⟨w.heap.size, 6, none⟩ = some (.int .u8 0) := (hb2.cell (by show w.heap.size < w.heap.size + 1; omega)).trans (by simp)
  have f6 : w2.frozen? ⟨w.heap.size, 6, none⟩ = false := (hb2.frozen (by show w.heap.size < w.heap.size + 1; omega)).trans (by simp)
  have d7 : w2.cell? ⟨w.heap.size, 7, none⟩ = some (.int .u8 0) := (hb2.cell (by show w.heap.size < w.heap.size + 1; omega)).trans (by simp)
  have f7 : w2.frozen? ⟨w.heap.size, 7, none⟩ = false := (hb2.frozen (by show w.heap.size < w.heap.size + 1; omega)).trans (by simp)
  have d8 : w2.cell? ⟨w.heap.size, 8, none⟩ = some (.int .u8 0) := (hb2.cell (by show w.heap.size < w.heap.size + 1; omega)).trans (by simp)
  have f8 : w2.frozen? ⟨w.heap.size, 8, none⟩ = false := (hb2.frozen (by show w.heap.size < w.heap.size + 1; omega)).trans (by simp)
  obtain ⟨x0, hx0⟩ := hE2.cell 0 (by omega)
  obtain ⟨x1, hx1⟩ := hE2.cell 1 (by omega)
  obtain ⟨x2, hx2⟩ := hE2.cell 2 (by omega)
  obtain ⟨x3, hx3⟩ := hE2.cell 3 (by omega)
  obtain ⟨x4, hx4⟩ := hE2.cell 4 (by omega)
  obtain ⟨x5, hx5⟩ := hE2.cell 5 (by omega)
  obtain ⟨x6, hx6⟩ := hE2.cell 6 (by omega)
  obtain ⟨x7, hx7⟩ := hE2.cell 7 (by omega)
  have hk := at_range hA (by omega)
  have hB2 : Below w.heap.size w w2 := (((Below.refl _ _).alloc (Nat.le_refl _) _).alloc (by simp) _).trans (hb2.mono (by omega))
  clear hE2 hb2
  have HA : Hid (At s k 0) := hA
  clear hA
  rcases hk with rfl | rfl | rfl | rfl | rfl | rfl | rfl | rfl
  · go_wp2
    go_ret
    exact ⟨1, rfl, HA.out, ((hB2.setCell (Nat.le_refl _) _).setCell (Nat.le_refl _) _).alloc (by simp only [size_set, hs2]; omega) _⟩
  · go_wp2
    go_ret
    exact ⟨2, rfl, HA.out, (((hB2.setCell (Nat.le_refl _) _).setCell (Nat.le_refl _) _).setCell (Nat.le_refl _) _).alloc (by simp only [size_set, hs2]; omega) _⟩
  · go_wp2
    go_ret
    exact ⟨3, rfl, HA.out, ((((hB2.setCell (Nat.le_refl _) _).setCell (Nat.le_refl _) _).setCell (Nat.le_refl _) _).setCell (Nat.le_refl _) _).alloc (by simp only [size_set, hs2]; omega) _⟩
  · go_wp2
    go_ret
    exact ⟨4, rfl, HA.out, (((((hB2.setCell (Nat.le_refl _) _).setCell (Nat.le_refl _) _).setCell (Nat.le_refl _) _).setCell (Nat.le_refl _) _).setCell (Nat.le_refl _) _).alloc (by simp only [size_set, hs2]; omega) _⟩
  · go_wp2
    go_ret
    exact ⟨5, rfl, HA.out, ((((((hB2.setCell (Nat.le_refl _) _).setCell (Nat.le_refl _) _).setCell (Nat.le_refl _) _).setCell (Nat.le_refl _) _).setCell (Nat.le_refl _) _).setCell (Nat.le_refl _) _).alloc (by simp only [size_set, hs2]; omega) _⟩
  · go_wp2
    go_ret
    exact ⟨6, rfl, HA.out, (((((((hB2.setCell (Nat.le_refl _) _).setCell (Nat.le_refl _) _).setCell (Nat.le_refl _) _).setCell (Nat.le_refl _) _).setCell (Nat.le_refl _) _).setCell (Nat.le_refl _) _).setCell (Nat.le_refl _) _).alloc (by simp only [size_set, hs2]; omega) _⟩
  · go_wp2
    go_ret
    exact ⟨7, rfl, HA.out, ((((((((hB2.setCell (Nat.le_refl _) _).setCell (Nat.le_refl _) _).setCell (Nat.le_refl _) _).setCell (Nat.le_refl _) _).setCell (Nat.le_refl _) _).setCell (Nat.le_refl _) _).setCell (Nat.le_refl _) _).setCell (Nat.le_refl _) _).alloc (by simp only [size_set, hs2]; omega) _⟩
  · go_wp2
    go_ret
    exact ⟨8, rfl, HA.out, (((((((((hB2.setCell (Nat.le_refl _) _).setCell (Nat.le_refl _) _).setCell (Nat.le_refl _) _).setCell (Nat.le_refl _) _).setCell (Nat.le_refl _) _).setCell (Nat.le_refl _) _).setCell (Nat.le_refl _) _).setCell (Nat.le_refl _) _).setCell (Nat.le_refl _) _).alloc (by simp only [size_set, hs2]; omega) _⟩
end Go.Proofs.Qxb6614412a
