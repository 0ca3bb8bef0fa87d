/-
  Seat b6614307a: zzBytes_FnLogRecordRefusesChangeBesideBatch.
-/
import Derived.Test.Qxb6614307aBytes6
namespace Go.Proofs.Qxb6614307a
open Go.RowKit
set_option linter.unusedVariables false

/-- It answers a bool; if true, the two texts and every tag are small. -/
def Ans2 (s d : ByteArray) (n : Nat) (Tg : Nat → ByteArray) (w : World) (e : Ending) (w' : World) : Prop :=
  ∃ b, e = .returned (.bool b) ∧ (b = true → ((s.size : Int) ≤ 1048576 ∧ (d.size : Int) ≤ 1048576 ∧ (s.size : Int) + d.size ≤ 1048576) ∧ Small n Tg) ∧ w = w'
theorem ans2_no {s d : ByteArray} {n : Nat} {Tg : Nat → ByteArray} {w : World} {e : Ending} (h : e = .returned (.bool false)) : Ans2 s d n Tg w e w := ⟨false, h, fun h => (by cases h), rfl⟩
theorem ans2_yes {s d : ByteArray} {n : Nat} {Tg : Nat → ByteArray} {w : World} {e : Ending} (h : e = .returned (.bool true)) (h1 : (s.size : Int) ≤ 1048576) (h2 : (d.size : Int) ≤ 1048576) (h3 : (s.size : Int) + d.size ≤ 1048576) (hs : Small n Tg) : Ans2 s d n Tg w e w :=
  ⟨true, h, fun _ => ⟨⟨h1, h2, h3⟩, hs⟩, rfl⟩

set_option maxRecDepth 100000 in
set_option maxHeartbeats 1000000 in
theorem bytes11 (w : World) (rev : Int) (a b : Bool) (s d : ByteArray) (x : Option Addr) (n cap : Nat) (Tg : Nat → ByteArray) (hS : Strs w x n Tg) :
    Calls Try.prog 11 #[.int .i64 rev, .bool a, .string s, .bool b, .string d, .slice x n cap] w fun e w' => Ans2 s d n Tg w e w' := by
  by_cases h1 : (1048576 : Int) < s.size
  · go_enter Try.func11, Try.ntmps11
    go_wp2
    go_ret
    exact ans2_no rfl
  have g1 : (s.size : Int) ≤ 1048576 := by omega
  by_cases h2 : (1048576 : Int) < d.size
  · clear h1
    go_enter Try.func11, Try.ntmps11
    go_wp2
    go_ret
    exact ans2_no rfl
  have g2 : (d.size : Int) ≤ 1048576 := by omega
  by_cases h3 : (1048576 : Int) < s.size + d.size
  · clear h1 h2
    go_enter Try.func11, Try.ntmps11
    go_wp2
    go_ret
    exact ans2_no rfl
  have g3 : (s.size : Int) + d.size ≤ 1048576 := by omega
  by_cases h4 : (1048576 : Int) < n
  · clear h1 h2 h3
    go_enter Try.func11, Try.ntmps11
    go_wp2
    go_ret
    exact ans2_no rfl
  have g4 : (n : Int) ≤ 1048576 := by omega
  by_cases h5 : (1048576 : Int) < s.size + d.size + n
  · clear h1 h2 h3 h4
    go_enter Try.func11, Try.ntmps11
    go_wp2
    go_ret
    exact ans2_no rfl
  have g5 : (s.size : Int) + d.size + n ≤ 1048576 := by omega
  have t1 : decide ((1048576 : Int) < s.size) = false := decide_eq_false h1
  have t2 : decide ((1048576 : Int) < d.size) = false := decide_eq_false h2
  have t3 : decide ((1048576 : Int) < s.size + d.size) = false := decide_eq_false h3
  have t4 : decide ((1048576 : Int) < n) = false := decide_eq_false h4
  have t5 : decide ((1048576 : Int) < s.size + d.size + n) = false := decide_eq_false h5
  clear h1 h2 h3 h4 h5
  go_enter Try.func11, Try.ntmps11
  go_wp2
  go_loop [13, 14] (fun z i => ∃ (k : Nat) (q : Int), k ≤ n ∧ i = .int .i64 k ∧ z = .int .i64 q ∧ 0 ≤ q ∧ q ≤ 1048576 ∧ Small k Tg) (fun _ i => n - (intOf i).toNat)
  case atStart => exact ⟨0, _, Nat.zero_le _, rfl, rfl, by omega, by omega, fun i hi => by omega⟩
  case round =>
    obtain ⟨k, q, hk, rfl, rfl, hq0, hq1, hsm⟩ := hrel
    by_cases hlt : k < n
    · obtain ⟨b, off, rfl, hb, hcell⟩ := hS k hlt
      have hlt' : (k : Int) < (n : Int) := by omega
      by_cases h1 : (1048576 : Int) < (Tg k).size
      · go_wp2
        go_ret
        exact ans2_no rfl
      · have h1' : ((Tg k).size : Int) ≤ 1048576 := by omega
        by_cases h2 : 1048576 < q + (Tg k).size
        · go_wp2
          go_ret
          exact ans2_no rfl
        · go_wp2
          go_round
          case rel => exact ⟨k + 1, q + (Tg k).size, by omega, by go_num, rfl, by omega, by omega, fun i hi => by
            by_cases e : i = k
            · subst e; exact h1'
            · exact hsm i (by omega)⟩
          case measure => simp [intOf]; omega
    · go_wp2
      go_ret
      exact ans2_yes rfl g1 g2 g3 fun i hi => hsm i (by omega)
end Go.Proofs.Qxb6614307a
