/-
  Seat b6614307a: zzBytes_FnLogRecordBatchReadsAsItsRecordsAlone.
-/
import Derived.Test.Qxb6614307aPut
namespace Go.Proofs.Qxb6614307a
open Go.RowKit
set_option linter.unusedVariables false

/-- No tag is longer than 1<<20. -/
def Small (n : Nat) (Tg : Nat → ByteArray) : Prop := ∀ i, i < n → ((Tg i).size : Int) ≤ 1048576

/-- It answers a bool; if true, every tag is small. -/
def Ans (n : Nat) (Tg : Nat → ByteArray) (w : World) (e : Ending) (w' : World) : Prop := ∃ b, e = .returned (.bool b) ∧ (b = true → Small n Tg) ∧ w = w'
theorem ans_no {n : Nat} {Tg : Nat → ByteArray} {w : World} {e : Ending} (h : e = .returned (.bool false)) : Ans n Tg w e w := ⟨false, h, fun h => (by cases h), rfl⟩
theorem ans_yes {n : Nat} {Tg : Nat → ByteArray} {w : World} {e : Ending} (h : e = .returned (.bool true)) (hs : Small n Tg) : Ans n Tg w e w := ⟨true, h, fun _ => hs, rfl⟩

set_option maxHeartbeats 400000 in
theorem bytes6 (w : World) (rev : Int) (a : Option Addr) (n cap : Nat) (Tg : Nat → ByteArray) (hS : Strs w a n Tg) :
    Calls Try.prog 6 #[.int .i64 rev, .slice a n cap] w fun e w' => Ans n Tg w e w' := by
  by_cases hn : (1048576 : Int) < n
  · go_enter Try.func6, Try.ntmps6
    go_wp2
    go_ret
    exact ans_no rfl
  have hn1 : (n : Int) ≤ 1048576 := by omega
  have t1 : decide (1048576 < (n : Int)) = false := decide_eq_false hn
  clear hn
  go_enter Try.func6, Try.ntmps6
  go_wp2
  go_loop [5, 6] (fun z i => ∃ (k : Nat) (q : Int), k ≤ n ∧ i = .int .i64 k ∧ z = .int .i64 q ∧ 0 ≤ q ∧ q ≤ 1048576 ∧ Small k Tg) (fun _ i => n - (intOf i).toNat)
  case atStart => exact ⟨0, n, Nat.zero_le _, rfl, rfl, by omega, by omega, fun i hi => by omega⟩
  case round =>
    obtain ⟨k, q, hk, rfl, rfl, hq0, hq1, hsm⟩ := hrel
    by_cases hlt : k < n
    · obtain ⟨b, off, rfl, hb, hcell⟩ := hS k hlt
      have hlt' : (k : Int) < (n : Int) := by omega
      by_cases h1 : (1048576 : Int) < (Tg k).size
      · go_wp2
        go_ret
        exact ans_no rfl
      · have h1' : ((Tg k).size : Int) ≤ 1048576 := by omega
        by_cases h2 : 1048576 < q + (Tg k).size
        · go_wp2
          go_ret
          exact ans_no rfl
        · go_wp2
          go_round
          case rel => exact ⟨k + 1, q + (Tg k).size, by omega, by go_num, rfl, by omega, by omega, fun i hi => by
            by_cases e : i = k
            · subst e; exact h1'
            · exact hsm i (by omega)⟩
          case measure => simp [intOf]; omega
    · go_wp2
      go_ret
      exact ans_yes rfl fun i hi => hsm i (by omega)
end Go.Proofs.Qxb6614307a
