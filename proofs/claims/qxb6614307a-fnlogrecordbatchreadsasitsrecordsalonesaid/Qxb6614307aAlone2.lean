/-
  Seat b6614307a: FnLogRecordBatchReadsAsItsRecordsAlone at a nil slice and at one that is too long; all ways together.
-/
import Derived.Test.Qxb6614307aAlone
namespace Go.Proofs.Qxb6614307a
open Go.RowKit
set_option linter.unusedVariables false

set_option maxRecDepth 100000 in
set_option maxHeartbeats 1000000 in
theorem alone_long (w : World) (rev : Int) (a : Option Addr) (n cap : Nat) (Tg : Nat → ByteArray) (hn : (65536 : Int) < n) (hS : Strs w a n Tg) :
    Calls Try.prog 3 #[.int .i64 rev, .slice a n cap] w fun e w' => e = .returned (.bool true) ∧ Below w.heap.size w w' := by
  go_enter Try.func3, Try.ntmps3
  go_wp2_with fail
  refine (bytes6 w rev a n cap Tg hS).mono ?_
  rintro e w' ⟨bo, rfl, hsm, rfl⟩
  clear hsm hS
  cases bo
  all_goals
    go_wp2
    go_ret
    exact ⟨rfl, Below.refl _ _⟩

set_option maxRecDepth 100000 in
set_option maxHeartbeats 1000000 in
theorem alone_none (w : World) (rev : Int) :
    Calls Try.prog 3 #[.int .i64 rev, .slice none 0 0] w fun e w' => e = .returned (.bool true) ∧ Below w.heap.size w w' := by
  have hneq := fun w => run_neq_slice_nil_any (P := Try.prog) w 22 9 none 0 0 0 0 Try.underlying22
  go_enter Try.func3, Try.ntmps3
  go_wp2_with fail
  refine (bytes6 w rev none 0 0 (fun _ => ⟨#[]⟩) (fun i hi => absurd hi (Nat.not_lt_zero _))).mono ?_
  rintro e w' ⟨bo, rfl, hsm, rfl⟩
  clear hsm
  cases bo
  · go_wp2
    go_ret
    exact ⟨rfl, Below.refl _ _⟩
  go_wp2_with fail
  go_loop [6, 7, 48] (fun z _ c => z = .int .i64 0 ∧ c = .int .i64 0) (fun _ _ _ => 0)
  case atStart => exact ⟨rfl, rfl⟩
  case round =>
    obtain ⟨rfl, rfl⟩ := hrel
    go_wp2_with fail
    refine (new_nil w rev false false ⟨#[]⟩ ⟨#[]⟩).mono ?_
    rintro e w3 ⟨L, t, u, rfl, hlog, hst, hsu, hb3⟩
    obtain rfl : t = none := says_none hst
    obtain rfl : u = none := says_none hsu
    clear hst hsu
    go_wp2_with fail
    refine (changes_alone w3 L rev none none _ 0 hlog).mono ?_
    rintro e w4 ⟨rfl, rfl⟩
    have hb4 : Below w.heap.size w (w3.alloc (.cells (recCells none none) 48)) := hb3.alloc hb3.size _
    clear hb3 hlog
    go_wp2_with fail
    refine (view_none _).mono ?_
    rintro e w5 ⟨rfl, hb5⟩
    have hb6 := hb4.trans (hb5.mono hb4.size)
    clear hb4 hb5
    go_wp2_with fail
    refine (is_any w5 false false ⟨#[]⟩ ⟨#[]⟩).mono ?_
    rintro e w6 ⟨rfl, rfl⟩
    go_wp2
    go_ret
    exact ⟨rfl, hb6⟩

theorem alone_any (w : World) (rev : Int) (a : Option Addr) (n cap : Nat) (Tg : Nat → ByteArray) (hnil : a = none → n = 0 ∧ cap = 0) (hS : Strs w a n Tg) :
    Calls Try.prog 3 #[.int .i64 rev, .slice a n cap] w fun e w' => e = .returned (.bool true) ∧ Below w.heap.size w w' := by
  by_cases hn : (65536 : Int) < n
  · exact alone_long w rev a n cap Tg hn hS
  · cases a with
    | none => obtain ⟨rfl, rfl⟩ := hnil rfl; exact alone_none w rev
    | some bx => exact alone_some w rev bx n cap Tg (by omega) hS
end Go.Proofs.Qxb6614307a
