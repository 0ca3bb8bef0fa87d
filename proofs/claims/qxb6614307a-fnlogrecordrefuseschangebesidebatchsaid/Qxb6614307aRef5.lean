/-
  Seat b6614307a: FnLogRecordRefusesChangeBesideBatch: a batch that is too long; all ways together.
-/
import Derived.Test.Qxb6614307aRef
import Derived.Test.Qxb6614307aRef2
import Derived.Test.Qxb6614307aRef4
namespace Go.Proofs.Qxb6614307a
open Go.RowKit
set_option linter.unusedVariables false

set_option maxRecDepth 100000 in
set_option maxHeartbeats 1000000 in
theorem ref_long (w : World) (rev : Int) (a b : Bool) (s d : ByteArray) (x : Option Addr) (n cap : Nat) (Tg : Nat → ByteArray) (hn : (65536 : Int) < n) (hS : Strs w x n Tg) :
    Calls Try.prog 4 #[.int .i64 rev, .bool a, .string s, .bool b, .string d, .slice x n cap] w fun e w' => e = .returned (.bool true) ∧ Below w.heap.size w w' := by
  go_enter Try.func4, Try.ntmps4
  go_wp2_with fail
  refine (bytes11 w rev a b s d x n cap Tg hS).mono ?_
  rintro e w' ⟨bo, rfl, hsm, rfl⟩
  cases bo
  · clear hsm hS
    go_wp2
    go_ret
    exact ⟨rfl, Below.refl _ _⟩
  · obtain ⟨⟨g1, g2, g3⟩, _⟩ := hsm rfl
    clear hsm hS
    go_wp2
    go_ret
    exact ⟨rfl, Below.refl _ _⟩

theorem ref_any (w : World) (rev : Int) (a b : Bool) (s d : ByteArray) (x : Option Addr) (n cap : Nat) (Tg : Nat → ByteArray) (hnil : x = none → n = 0 ∧ cap = 0) (hS : Strs w x n Tg) :
    Calls Try.prog 4 #[.int .i64 rev, .bool a, .string s, .bool b, .string d, .slice x n cap] w fun e w' => e = .returned (.bool true) ∧ Below w.heap.size w w' := by
  by_cases hn : (65536 : Int) < n
  · exact ref_long w rev a b s d x n cap Tg hn hS
  · cases x with
    | none =>
      obtain ⟨rfl, rfl⟩ := hnil rfl
      cases a <;> cases b
      · exact refn_ff w rev s d
      · exact refn_ft w rev s d
      · exact refn_tf w rev s d
      · exact refn_tt w rev s d
    | some bx =>
      cases n with
      | zero =>
        cases a <;> cases b
        · exact ref0_ff w rev s d bx cap Tg hS
        · exact ref0_ft w rev s d bx cap Tg hS
        · exact ref0_tf w rev s d bx cap Tg hS
        · exact ref0_tt w rev s d bx cap Tg hS
      | succ m =>
        have hm : m + 1 ≤ 65536 := by omega
        cases a <;> cases b
        · exact ref_ff w rev s d bx cap m Tg hm hS
        · exact ref_ft w rev s d bx cap m Tg hm hS
        · exact ref_tf w rev s d bx cap m Tg hm hS
        · exact ref_tt w rev s d bx cap m Tg hm hS
end Go.Proofs.Qxb6614307a
