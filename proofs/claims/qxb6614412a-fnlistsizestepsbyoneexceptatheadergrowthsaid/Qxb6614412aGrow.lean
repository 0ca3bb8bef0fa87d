/-
  Seat b6614412a: zzHeaderGrowsAt, and the plain law on the sizes of headers.
-/
import Derived.Test.Qxb6614412aSize
namespace Go.Proofs.Qxb6614412a
open Go.RowKit
set_option linter.unusedVariables false

theorem pow_wrap (k : Nat) (h : k ≤ 7) : IntKind.u64.wrap ((2 : Int) ^ (8 * k)) = ((256 ^ k : Nat) : Int) := by
  match k, h with
  | 0, _ => decide +kernel
  | 1, _ => decide +kernel
  | 2, _ => decide +kernel
  | 3, _ => decide +kernel
  | 4, _ => decide +kernel
  | 5, _ => decide +kernel
  | 6, _ => decide +kernel
  | 7, _ => decide +kernel

/-- What zzHeaderGrowsAt answers. -/
def Grew (t : Nat) (b : Bool) : Prop := (b = true ∧ (t = 56 ∨ ∃ j, 1 ≤ j ∧ j ≤ 7 ∧ t = 256 ^ j)) ∨ (b = false ∧ t ≠ 56 ∧ ∀ j, 1 ≤ j → j ≤ 7 → t ≠ 256 ^ j)
def GrewAns (t : Nat) (w : World) (e : Ending) (w' : World) : Prop := ∃ b, e = .returned (.bool b) ∧ Grew t b ∧ w = w'
theorem grew_yes {t : Nat} {w : World} {e : Ending} (h : e = .returned (.bool true)) (ht : t = 56 ∨ ∃ j, 1 ≤ j ∧ j ≤ 7 ∧ t = 256 ^ j) : GrewAns t w e w := ⟨true, h, .inl ⟨rfl, ht⟩, rfl⟩
theorem grew_no {t : Nat} {w : World} {e : Ending} (h : e = .returned (.bool false)) (h1 : t ≠ 56) (h2 : ∀ j, 1 ≤ j → j ≤ 7 → t ≠ 256 ^ j) : GrewAns t w e w := ⟨false, h, .inr ⟨rfl, h1, h2⟩, rfl⟩

set_option maxHeartbeats 1000000 in
theorem grow_any (w : World) (t : Nat) (h1 : (t : Int) ≤ 9223372036854775807) :
    Calls Try.prog 5 #[.int .i64 t] w fun e w' => GrewAns t w e w' := by
  by_cases h56 : t = 56
  · subst h56
    go_enter Try.func5, Try.ntmps5
    go_wp2
    go_ret
    exact grew_yes rfl (.inl rfl)
  have h56' : ((t : Int) == 56) = false := beq_eq_false_iff_ne.2 (by omega)
  have H56 : Hid (t ≠ 56) := h56
  clear h56
  go_enter Try.func5, Try.ntmps5
  go_wp2
  go_loop [4] (fun c => ∃ k : Nat, 1 ≤ k ∧ k ≤ 8 ∧ c = .int .u64 k ∧ Hid (∀ j, 1 ≤ j → j < k → t ≠ 256 ^ j)) (fun c => 8 - (intOf c).toNat)
  case atStart => exact ⟨1, by omega, by omega, rfl, fun j h1 h2 => by omega⟩
  case round =>
    obtain ⟨k, hk1, hk2, rfl, hj⟩ := hrel
    by_cases hlt : k ≤ 7
    · have hlt' : (k : Int) ≤ 7 := by omega
      by_cases he : t = 256 ^ k
      · have hb : ((t : Int) == IntKind.u64.wrap ((2 : Int) ^ (8 * k))) = true := by rw [pow_wrap k hlt]; exact beq_iff_eq.2 (by omega)
        have HE : Hid (t = 256 ^ k) := he
        clear he
        go_wp2
        go_ret
        exact grew_yes rfl (.inr ⟨k, hk1, hlt, HE.out⟩)
      · have hb : ((t : Int) == IntKind.u64.wrap ((2 : Int) ^ (8 * k))) = false := by rw [pow_wrap k hlt]; exact beq_eq_false_iff_ne.2 (by omega)
        have HE : Hid (t ≠ 256 ^ k) := he
        clear he
        go_wp2
        go_round
        case rel => exact ⟨k + 1, by omega, by omega, by go_num, fun j h1 h2 => by
          by_cases e : j = k
          · subst e; exact HE.out
          · exact hj.out j h1 (by omega)⟩
        case measure => simp [intOf]; omega
    · go_wp2
      go_ret
      exact grew_no rfl H56.out fun j h1 h2 => hj.out j h1 (by omega)

/-- The header of a list of s bytes takes h. -/
def Head (s : Nat) (h : Int) : Prop := (s < 56 ∧ h = 1) ∨ (56 ≤ s ∧ ∃ k : Nat, h = 1 + k ∧ At s k 0)

/-- The same, in numbers. -/
def hd (s : Nat) : Int :=
  if s < 56 then 1 else if s < 256 then 2 else if s < 65536 then 3 else if s < 16777216 then 4 else if s < 4294967296 then 5 else if s < 1099511627776 then 6
  else if s < 281474976710656 then 7 else if s < 72057594037927936 then 8 else 9

theorem at_zero {V k : Nat} (h : At V k 0) : V < 256 ^ k := by
  obtain ⟨_, h2, _⟩ := h
  have hp : 0 < 256 ^ k := Nat.pow_pos (by omega)
  exact (Nat.div_eq_zero_iff_lt hp).1 h2.symm

theorem head_hd {s : Nat} {h : Int} (hh : Head s h) : h = hd s := by
  rcases hh with ⟨h1, rfl⟩ | ⟨h1, k, rfl, hA⟩
  · simp [hd, h1]
  · have hz := at_zero hA
    obtain ⟨h8, _, hl⟩ := hA
    unfold hd
    match k, h8 with
    | 0, _ => simp at hz; omega
    | 1, _ => simp at hz hl; split <;> omega
    | 2, _ => simp at hz hl; split <;> (try split) <;> omega
    | 3, _ => simp at hz hl; repeat (split; omega)
              omega
    | 4, _ => simp at hz hl; repeat (split; omega)
              omega
    | 5, _ => simp at hz hl; repeat (split; omega)
              omega
    | 6, _ => simp at hz hl; repeat (split; omega)
              omega
    | 7, _ => simp at hz hl; repeat (split; omega)
              omega
    | 8, _ => simp at hz hl; repeat (split; omega)
              omega
end Go.Proofs.Qxb6614412a
