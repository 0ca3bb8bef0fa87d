/-
  Seat b6614412a: putBigEndian.
-/
import Derived.Test.Qxb6614412aRows
import Derived.WalkKit
import Derived.ProofKit
import Derived.Below
import Derived.WalkSpells
namespace Go.Proofs.Qxb6614412a
open Go.RowKit
set_option linter.unusedVariables false

/-- Eight bytes lie at block B, none frozen. -/
structure Eight (w : World) (B : Nat) : Prop where
  cell : ∀ i, i < 8 → ∃ x, w.cell? ⟨B, i, none⟩ = some (.int .u8 x)
  frozen : ∀ i, i < 8 → w.frozen? ⟨B, i, none⟩ = false

/-- The loop's state: k bytes are written, v is left. -/
def At (V : Nat) (k : Nat) (v : Nat) : Prop := k ≤ 8 ∧ v = V / 256 ^ k ∧ (k = 0 ∨ 256 ^ (k - 1) ≤ V)

theorem at_lt {V k u : Nat} (h : At V k u) (hV : V ≤ 9223372036854775807) (hu : 0 < u) : k < 8 := by
  obtain ⟨h1, h2, _⟩ := h
  by_cases e : k = 8
  · subst e
    rw [Nat.div_eq_of_lt (by omega)] at h2
    omega
  · omega

theorem at_le {V k u : Nat} (h : At V k u) : u ≤ V := by
  rw [h.2.1]; exact Nat.div_le_self _ _

theorem at_step {V k u : Nat} (h : At V k u) (hu : 0 < u) (hk : k < 8) : At V (k + 1) (u / 256) := by
  obtain ⟨h1, h2, h3⟩ := h
  refine ⟨by omega, ?_, .inr ?_⟩
  · rw [h2, Nat.div_div_eq_div_mul, Nat.pow_succ]
  · rw [Nat.add_sub_cancel]
    have hp : 0 < 256 ^ k := Nat.pow_pos (by omega)
    have : V / 256 ^ k ≠ 0 := by omega
    exact Nat.le_of_not_lt fun hl => this (Nat.div_eq_of_lt hl)

theorem sc_other {w : World} {A k B j : Nat} {v : Value} (h : A ≠ B ∨ k ≠ j) : (w.setCell ⟨A, k, none⟩ v).cell? ⟨B, j, none⟩ = w.cell? ⟨B, j, none⟩ :=
  World.cell?_setCell_other _ _ _ _ (by intro e; simp at e; omega)

theorem eight_set {w : World} {B i : Nat} {x : Int} (h : Eight w B) (hi : i < 8) : Eight (w.setCell ⟨B, i, none⟩ (.int .u8 x)) B := by
  refine ⟨fun j hj => ?_, fun j hj => by rw [World.frozen?_setCell]; exact h.frozen j hj⟩
  by_cases e : j = i
  · subst e
    obtain ⟨y, hy⟩ := h.cell j hj
    exact ⟨x, World.cell?_setCell_same _ _ _ hy⟩
  · obtain ⟨y, hy⟩ := h.cell j hj
    refine ⟨y, ?_⟩
    rw [sc_other (by omega)]; exact hy

set_option maxHeartbeats 1000000 in
theorem put_any (w : World) (B V : Nat) (hV : (V : Int) ≤ 9223372036854775807) (hE : Eight w B) :
    Calls Try.prog 7 #[.slice (some ⟨B, 0, none⟩) 8 8, .int .u64 V] w fun e w' => ∃ k, e = .returned (.int .i64 (k : Nat)) ∧ At V k 0 ∧ Eight w' B ∧ w'.heap.size = w.heap.size ∧ Below B w w' := by
  go_enter Try.func7, Try.ntmps7
  go_wp2
  go_loopw [1, 5] (fun v n wr => ∃ (k u : Nat), n = .int .i64 k ∧ v = .int .u64 u ∧ At V k u ∧ Eight wr B ∧ wr.heap.size = w.heap.size ∧ Below B w wr) (fun _ n _ => 8 - (intOf n).toNat)
  case atStart => exact ⟨0, V, rfl, rfl, ⟨by omega, by simp, .inl rfl⟩, hE, rfl, Below.refl _ _⟩
  case round =>
    obtain ⟨k, u, rfl, rfl, hA, hE, hs, hB⟩ := hrel
    by_cases hu : 0 < u
    · have hk : k < 8 := at_lt hA (by omega) hu
      have hk' : (k : Int) ≤ 7 := by omega
      have hu' : (0 : Int) < u := by omega
      have hu2 : (u : Int) ≤ 9223372036854775807 := by have := at_le hA; omega
      obtain ⟨x, hx⟩ := hE.cell (7 - k) (by omega)
      have hf := hE.frozen (7 - k) (by omega)
      go_wp2
      go_roundw
      case rel => exact ⟨k + 1, u / 256, by go_num, by go_num, at_step hA hu hk, eight_set hE (by omega), by rw [← hs]; simp [World.setCell], hB.setCell (Nat.le_refl _) _⟩
      case measure => simp [intOf]; omega
    · obtain rfl : u = 0 := by omega
      go_wp2
      go_ret
      exact ⟨k, rfl, hA, hE, hs, hB⟩
end Go.Proofs.Qxb6614412a
