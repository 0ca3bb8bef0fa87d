/-
  Seat b6614225a: the queue as it lies in memory after k pushes: the coroutines are blocks b, b + 1, ..; ZZglobalPush's contract over that.
-/
import Derived.Test.Qxb6614225aQueue
namespace Go.Proofs.Qxb6614225a
open Go.RowKit
set_option linter.unusedVariables false

/-- The pointer to block c, or nil. -/
def ptr (k c : Nat) : Option Addr := if k = 0 then none else some ⟨c, 0, none⟩

structure QState (w : World) (Q b k : Nat) : Prop where
  lt : Q < b
  size : b + k ≤ w.heap.size
  head : w.cell? ⟨Q, 0, none⟩ = some (.pointer (ptr k b))
  tail : w.cell? ⟨Q, 1, none⟩ = some (.pointer (ptr k (b + k - 1)))
  count : w.cell? ⟨Q, 2, none⟩ = some (.int .i64 k)
  f0 : w.frozen? ⟨Q, 0, none⟩ = false
  f1 : w.frozen? ⟨Q, 1, none⟩ = false
  f2 : w.frozen? ⟨Q, 2, none⟩ = false
  next : ∀ i, i < k → w.cell? ⟨b + i, 2, none⟩ = some (.pointer (if i + 1 = k then none else some ⟨b + i + 1, 0, none⟩))
  fnext : ∀ i, i < k → w.frozen? ⟨b + i, 2, none⟩ = false

/-- A coroutine that is pushed next. -/
structure Fresh (w : World) (c : Nat) : Prop where
  lt : c < w.heap.size
  next : w.cell? ⟨c, 2, none⟩ = some (.pointer none)
  fnext : w.frozen? ⟨c, 2, none⟩ = false

/-- What a push leaves as it was. -/
structure Kept (w w' : World) (Q b : Nat) : Prop where
  size : w'.heap.size = w.heap.size
  cell : ∀ c o, c ≠ Q → c < b → w'.cell? ⟨c, o, none⟩ = w.cell? ⟨c, o, none⟩
  frozen : ∀ a, w'.frozen? a = w.frozen? a
  below : ∀ B, B ≤ Q → B ≤ b → Below B w w'

set_option maxHeartbeats 400000 in
theorem push_any (w : World) (Q b k : Nat) (h : QState w Q b k) (f : Fresh w (b + k)) (hk : k ≤ 4096) :
    Calls Try.prog 7 #[.pointer (some ⟨Q, 0, none⟩), .pointer (some ⟨b + k, 0, none⟩)] w fun e w' => e = .returned (.tuple #[]) ∧ QState w' Q b (k + 1) ∧ Kept w w' Q b := by
  have hQb := h.lt
  by_cases hk0 : k = 0
  · subst hk0
    refine (push_first w Q (b + 0) (by simpa [ptr] using h.head) (by simpa [ptr] using h.tail) (by simpa using h.count) h.f0 h.f1 h.f2).mono ?_
    rintro e w' ⟨rfl, rfl⟩
    refine ⟨rfl, ⟨h.lt, ?_, ?_, ?_, ?_, ?_, ?_, ?_, ?_, ?_⟩, ⟨?_, ?_, ?_, ?_⟩⟩
    · have := f.lt; simp [World.setCell] at this ⊢; omega
    · rw [sc_other (by omega), sc_other (by omega), World.cell?_setCell_same _ _ _ h.head]; rfl
    · rw [sc_other (by omega), World.cell?_setCell_same (u := .pointer none) _ _ _ (by rw [sc_other (by omega)]; exact h.tail)]; rfl
    · rw [World.cell?_setCell_same (u := .int .i64 0) _ _ _ (by rw [sc_other (by omega), sc_other (by omega)]; exact h.count)]; rfl
    · simpa using h.f0
    · simpa using h.f1
    · simpa using h.f2
    · intro i hi
      obtain rfl : i = 0 := by omega
      rw [sc_other (by omega), sc_other (by omega), sc_other (by omega)]; exact f.next
    · intro i hi
      obtain rfl : i = 0 := by omega
      simpa using f.fnext
    · simp [World.setCell]
    · intro c o h1 h2
      rw [sc_other (by omega), sc_other (by omega), sc_other (by omega)]
    · intro a; simp
    · intro B h1 h2
      exact ((((Below.refl _ _).setCell (by exact h1) _).setCell (by exact h1) _).setCell (by exact h1) _)
  · have ht := h.next (k - 1) (by omega)
    rw [if_pos (by omega)] at ht
    have htail : w.cell? ⟨Q, 1, none⟩ = some (.pointer (some ⟨b + (k - 1), 0, none⟩)) := by
      rw [h.tail, ptr, if_neg hk0, show b + k - 1 = b + (k - 1) by omega]
    refine (push_more w Q (b + k) (b + (k - 1)) k (by omega) (by omega) htail h.count ht h.f1 h.f2 (h.fnext (k - 1) (by omega))).mono ?_
    rintro e w' ⟨rfl, rfl⟩
    refine ⟨rfl, ⟨h.lt, ?_, ?_, ?_, ?_, ?_, ?_, ?_, ?_, ?_⟩, ⟨?_, ?_, ?_, ?_⟩⟩
    · have := f.lt; simp [World.setCell] at this ⊢; omega
    · rw [sc_other (by omega), sc_other (by omega), sc_other (by omega), h.head]; simp [ptr, hk0]
    · rw [sc_other (by omega), World.cell?_setCell_same _ _ _ (by rw [sc_other (by omega)]; exact htail)]; rfl
    · rw [World.cell?_setCell_same _ _ _ (by rw [sc_other (by omega), sc_other (by omega)]; exact h.count)]; rfl
    · simpa using h.f0
    · simpa using h.f1
    · simpa using h.f2
    · intro i hi
      rw [sc_other (by omega), sc_other (by omega)]
      by_cases h1 : i = k
      · subst h1
        rw [sc_other (by omega), if_pos rfl]; exact f.next
      · rw [if_neg (by omega)]
        by_cases h2 : i = k - 1
        · subst h2
          rw [World.cell?_setCell_same _ _ _ ht, show b + (k - 1) + 1 = b + k by omega]
        · rw [sc_other (by omega), h.next i (by omega), if_neg (by omega)]
    · intro i hi
      by_cases h1 : i = k
      · subst h1; simpa using f.fnext
      · simpa using h.fnext i (by omega)
    · simp [World.setCell]
    · intro c o h1 h2
      rw [sc_other (by omega), sc_other (by omega), sc_other (by omega)]
    · intro a; simp
    · intro B h1 h2
      exact ((((Below.refl _ _).setCell (by show _ ≤ b + (k - 1); omega) _).setCell (by exact h1) _).setCell (by exact h1) _)

/-- The queue stays as it is behind a new block, and behind a store into another block below b. -/
theorem QState.alloc {w : World} {Q b k : Nat} (h : QState w Q b k) (o : Go.Obj) : QState (w.alloc o) Q b k := by
  have hs := h.size
  have hl := h.lt
  have hQ : Q < w.heap.size := by omega
  refine ⟨h.lt, by simp; omega, ?_, ?_, ?_, ?_, ?_, ?_, fun i hi => ?_, fun i hi => ?_⟩
  · rw [World.cell?_alloc_past _ _ _ hQ]; exact h.head
  · rw [World.cell?_alloc_past _ _ _ hQ]; exact h.tail
  · rw [World.cell?_alloc_past _ _ _ hQ]; exact h.count
  · rw [World.frozen?_alloc_past _ _ _ hQ]; exact h.f0
  · rw [World.frozen?_alloc_past _ _ _ hQ]; exact h.f1
  · rw [World.frozen?_alloc_past _ _ _ hQ]; exact h.f2
  · rw [World.cell?_alloc_past _ _ _ (by omega)]; exact h.next i hi
  · rw [World.frozen?_alloc_past _ _ _ (by omega)]; exact h.fnext i hi

theorem QState.store {w : World} {Q b k : Nat} (h : QState w Q b k) (S j : Nat) (v : Value) (h1 : S ≠ Q) (h2 : S < b) : QState (w.setCell ⟨S, j, none⟩ v) Q b k := by
  have hl := h.lt
  refine ⟨h.lt, by have := h.size; simp [World.setCell] at this ⊢; omega, ?_, ?_, ?_, ?_, ?_, ?_, fun i hi => ?_, fun i hi => ?_⟩
  · rw [sc_other (by omega)]; exact h.head
  · rw [sc_other (by omega)]; exact h.tail
  · rw [sc_other (by omega)]; exact h.count
  · simpa using h.f0
  · simpa using h.f1
  · simpa using h.f2
  · rw [sc_other (by omega)]; exact h.next i hi
  · simpa using h.fnext i hi

theorem fresh_new (w : World) (c : Nat) (hc : c = w.heap.size) (cs : Array Value) (t : TypeId) (h2 : cs[2]? = some (.pointer none)) : Fresh (w.alloc (.cells cs t)) c :=
  ⟨by simp; omega, by rw [World.cell?_alloc_at _ _ _ _ hc]; exact h2, by rw [World.frozen?_alloc_at _ _ _ _ hc]⟩

theorem push_at (w : World) (Q b k c : Nat) (hc : c = b + k) (h : QState w Q b k) (f : Fresh w c) (hk : k ≤ 4096) :
    Calls Try.prog 7 #[.pointer (some ⟨Q, 0, none⟩), .pointer (some ⟨c, 0, none⟩)] w fun e w' => e = .returned (.tuple #[]) ∧ QState w' Q b (k + 1) ∧ Kept w w' Q b := by
  subst hc
  exact push_any w Q b k h f hk

def queueCells : Array Value := #[.pointer none, .pointer none, .int .i64 0]
def coCells : Array Value := #[.pointer none, .nilFunc, .pointer none, .pointer none, .int .u32 0, .int .i32 0, .int .u32 0, .chan none, .pointer none]

theorem newQueue_any (w : World) : Calls Try.prog 5 #[] w fun e w' => e = .returned (.pointer (some ⟨w.heap.size, 0, none⟩)) ∧ w.alloc (.cells queueCells 38) = w' := by
  go_enter Try.func5, Try.ntmps5
  go_wp2
  go_ret
  exact ⟨rfl, rfl⟩

theorem newCo_any (w : World) : Calls Try.prog 6 #[] w fun e w' => e = .returned (.pointer (some ⟨w.heap.size, 0, none⟩)) ∧ w.alloc (.cells coCells 55) = w' := by
  go_enter Try.func6, Try.ntmps6
  go_wp2
  go_ret
  exact ⟨rfl, rfl⟩

theorem qstate_new (w : World) (b : Nat) (hb : b = w.heap.size + 1) : QState (w.alloc (.cells queueCells 38)) w.heap.size b 0 := by
  subst hb
  unfold queueCells
  exact ⟨by omega, by simp, by simp [ptr], by simp [ptr], by simp, by simp, by simp, by simp, fun i hi => by omega, fun i hi => by omega⟩
end Go.Proofs.Qxb6614225a
