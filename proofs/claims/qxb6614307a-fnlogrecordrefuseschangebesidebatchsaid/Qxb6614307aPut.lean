/-
  Seat b6614307a: the plain facts on memory that ZZnewLogRecord's walk needs.
-/
import Derived.Test.Qxb6614307aChanges
namespace Go.Proofs.Qxb6614307a
open Go.RowKit
set_option linter.unusedVariables false

/-- w' is wr with the cells vs written at block A from place p on. -/
structure Put (wr w' : World) (A p : Nat) (vs : List Value) : Prop where
  size : w'.heap.size = wr.heap.size
  frozen : ∀ a, w'.frozen? a = wr.frozen? a
  other : ∀ T o, (T ≠ A ∨ o < p ∨ p + vs.length ≤ o) → w'.cell? ⟨T, o, none⟩ = wr.cell? ⟨T, o, none⟩
  here : ∀ j v, vs[j]? = some v → w'.cell? ⟨A, p + j, none⟩ = some v
  below : ∀ B w, B ≤ A → Below B w wr → Below B w w'

theorem Put.start (wr : World) (A p : Nat) : Put wr wr A p [] :=
  ⟨rfl, fun _ => rfl, fun _ _ _ => rfl, fun j v h => by simp at h, fun _ _ _ h => h⟩

theorem sc_off {w : World} {A k B j : Nat} {v : Value} (h : A ≠ B ∨ k ≠ j) : (w.setCell ⟨A, k, none⟩ v).cell? ⟨B, j, none⟩ = w.cell? ⟨B, j, none⟩ :=
  World.cell?_setCell_other _ _ _ _ (by intro e; simp at e; omega)

theorem Put.next {wr w' : World} {A p : Nat} {vs : List Value} (h : Put wr w' A p vs) {old : Value} (ho : wr.cell? ⟨A, p + vs.length, none⟩ = some old) (v : Value) :
    Put wr (w'.setCell ⟨A, p + vs.length, none⟩ v) A p (vs ++ [v]) := by
  refine ⟨by rw [← h.size]; simp [World.setCell], fun a => by rw [World.frozen?_setCell]; exact h.frozen a, fun T o ho => ?_, fun j u hj => ?_, fun B w h1 h2 => (h.below B w h1 h2).setCell (by exact h1) _⟩
  · simp at ho
    rw [sc_off (by omega)]
    exact h.other T o (by omega)
  · by_cases e : j = vs.length
    · subst e
      simp at hj
      subst hj
      refine World.cell?_setCell_same (u := old) _ _ _ ?_
      rw [h.other A (p + vs.length) (by omega)]; exact ho
    · rw [sc_off (by omega)]
      have hl : j < vs.length := by
        have := (List.getElem?_eq_some_iff.1 hj).1
        simp at this; omega
      rw [List.getElem?_append_left hl] at hj
      exact h.here j u hj

/-- Record i of the batch at block A declares the tag s. -/
def RecAt (w : World) (A i : Nat) (s : ByteArray) : Prop :=
  (∀ j, 1 ≤ j → j < 14 → w.cell? ⟨A, i * 14 + j, none⟩ = some (.pointer none)) ∧
    ∃ b, A < b ∧ w.cell? ⟨A, i * 14, none⟩ = some (.pointer (some ⟨b, 0, none⟩)) ∧ w.cell? ⟨b, 0, none⟩ = some (.string s)

theorem RecAt.later {w w' : World} {A i : Nat} {s : ByteArray} (h : RecAt w A i s) (hb : Below w.heap.size w w') : RecAt w' A i s := by
  obtain ⟨h1, b, h2, h3, h4⟩ := h
  have hA := block_lt_of_cell h3
  have hb' := block_lt_of_cell h4
  exact ⟨fun j k1 k2 => (hb.cell (by exact hA)).trans (h1 j k1 k2), b, h2, (hb.cell (by exact hA)).trans h3, (hb.cell (by exact hb')).trans h4⟩

/-- In the loop: the batch lies at block A, its first k records are written; below A all is as in w0, but for the log record's own cell 15. -/
structure Bat (w0 wr : World) (L A n k : Nat) (Tg : Nat → ByteArray) : Prop where
  la : L < A
  lt : A < wr.heap.size
  c15 : wr.cell? ⟨L, 15, none⟩ = some (.slice (some ⟨A, 0, none⟩) n n)
  old : ∀ T o, T < A → (T ≠ L ∨ o ≠ 15) → wr.cell? ⟨T, o, none⟩ = w0.cell? ⟨T, o, none⟩
  frozen : ∀ i, i < n * 14 → wr.frozen? ⟨A, i, none⟩ = false
  todo : ∀ i, k * 14 ≤ i → i < n * 14 → wr.cell? ⟨A, i, none⟩ = some (.pointer none)
  done : ∀ i, i < k → RecAt wr A i (Tg i)

theorem rec_get {c : Option Addr} {j : Nat} (h1 : 1 ≤ j) (h2 : j < 14) : (recCells c none).toList[j]? = some (.pointer none) := by
  match j, h1, h2 with
  | 1, _, _ => rfl
  | 2, _, _ => rfl
  | 3, _, _ => rfl
  | 4, _, _ => rfl
  | 5, _, _ => rfl
  | 6, _, _ => rfl
  | 7, _, _ => rfl
  | 8, _, _ => rfl
  | 9, _, _ => rfl
  | 10, _, _ => rfl
  | 11, _, _ => rfl
  | 12, _, _ => rfl
  | 13, _, _ => rfl

theorem bat_step {w0 wr w' : World} {L A n k : Nat} {Tg : Nat → ByteArray} (h : Bat w0 wr L A n k Tg) (hk : k < n)
    (hp : Put wr w' A (k * 14) (recCells (some ⟨wr.heap.size, 0, none⟩) none).toList) (t : TypeId) :
    Bat w0 ((w'.alloc (.cells #[.string (Tg k)] t)).drew) L A n (k + 1) Tg := by
  have hl := h.la
  have hlt := h.lt
  have hs := hp.size
  have hlen : (recCells (some ⟨wr.heap.size, 0, none⟩) none).toList.length = 14 := rfl
  have hpast : ∀ T o, T < wr.heap.size → (w'.alloc (.cells #[.string (Tg k)] t)).drew.cell? ⟨T, o, none⟩ = w'.cell? ⟨T, o, none⟩ := fun T o hT => by
    rw [World.cell?_drew, World.cell?_alloc_past _ _ _ (by omega)]
  refine ⟨hl, ?_, ?_, fun T o h1 h2 => ?_, fun i hi => ?_, fun i h1 h2 => ?_, fun i hi => ?_⟩
  · show A < (w'.alloc _).heap.size
    simp; omega
  · rw [hpast L 15 (by omega), hp.other L 15 (by omega)]; exact h.c15
  · rw [hpast T o (by omega), hp.other T o (by omega)]; exact h.old T o h1 h2
  · rw [World.frozen?_drew, World.frozen?_alloc_past _ _ _ (by omega), hp.frozen]; exact h.frozen i hi
  · rw [hpast A i hlt, hp.other A i (by omega)]; exact h.todo i (by omega) h2
  · by_cases hik : i = k
    · subst hik
      refine ⟨fun j h1 h2 => ?_, wr.heap.size, hlt, ?_, ?_⟩
      · rw [hpast A _ hlt]; exact hp.here j _ (rec_get h1 h2)
      · rw [hpast A _ hlt]; exact hp.here 0 _ rfl
      · rw [World.cell?_drew, World.cell?_alloc_at _ _ _ _ hs.symm]; rfl
    · obtain ⟨r1, b, r2, r3, r4⟩ := h.done i (by omega)
      have hb := block_lt_of_cell r4
      refine ⟨fun j h1 h2 => ?_, b, r2, ?_, ?_⟩
      · rw [hpast A _ hlt, hp.other A _ (by omega)]; exact r1 j h1 h2
      · rw [hpast A _ hlt, hp.other A _ (by omega)]; exact r3
      · rw [hpast b _ hb, hp.other b _ (by omega)]; exact r4

theorem made_get (n i : Nat) (h : i < n * 14) : (madeCells (recCells none none) (n * 14)).toList[i]? = some (.pointer none) := by
  have e : (recCells none none).size = 14 := rfl
  have hm : i % 14 < 14 := Nat.mod_lt _ (by omega)
  simp only [madeCells, Array.toList_map, List.getElem?_map, Array.toList_range, List.getElem?_range h, Option.map_some, e]
  congr 1
  match i % 14, hm with
  | 0, _ => rfl
  | 1, _ => rfl
  | 2, _ => rfl
  | 3, _ => rfl
  | 4, _ => rfl
  | 5, _ => rfl
  | 6, _ => rfl
  | 7, _ => rfl
  | 8, _ => rfl
  | 9, _ => rfl
  | 10, _ => rfl
  | 11, _ => rfl
  | 12, _ => rfl
  | 13, _ => rfl

theorem bat_start {w0 w1 : World} {base L A n : Nat} (Tg : Nat → ByteArray) (hA : A = w0.heap.size) (hL : L < A)
    (hown : w1.ownsRow base 48 14 (.slice (some ⟨A, 0, none⟩) n n) n (madeCells (recCells none none) (n * 14)).toList) (hg : w0.grownBy w1 none)
    {old : Value} (h15 : w0.cell? ⟨L, 15, none⟩ = some old) :
    Bat w0 (w1.setCell ⟨L, 15, none⟩ (.slice (some ⟨A, 0, none⟩) n n)) L A n 0 Tg := by
  have hlt := (hown.lt A rfl).2
  have hold : ∀ T o, T < A → w1.cell? ⟨T, o, none⟩ = w0.cell? ⟨T, o, none⟩ := fun T o hT => World.cell?_of_block (by exact hg.block T (by omega) (by simp))
  refine ⟨hL, by simpa [World.setCell] using hlt, ?_, fun T o h1 h2 => ?_, fun i hi => ?_, fun i _ hi => ?_, fun i hi => by omega⟩
  · exact World.cell?_setCell_same (u := old) _ _ _ (by rw [hold L 15 hL]; exact h15)
  · rw [sc_off (by omega)]; exact hold T o h1
  · rw [World.frozen?_setCell]; exact hown.frozenAt i
  · rw [sc_off (by omega), hown.cellAt i hi]; exact made_get n i hi

/-- What a pointer in a log record says: nothing, or this text. -/
def Says (w : World) (b : Bool) (s : ByteArray) (t : Option Addr) : Prop :=
  (b = false ∧ t = none) ∨ (b = true ∧ ∃ T, t = some ⟨T, 0, none⟩ ∧ w.cell? ⟨T, 0, none⟩ = some (.string s))

theorem Log.alloc {w : World} {L : Nat} {rev : Int} {t u : Option Addr} {bt : Value} (h : Log w L rev t u bt) (o : Go.Obj) : Log (w.alloc o) L rev t u bt :=
  h.later ((Below.refl _ _).alloc (Nat.le_refl _) _)
theorem log_alloc {w : World} {L : Nat} {rev : Int} {t u : Option Addr} {bt : Value} (hL : L = w.heap.size) (ty : TypeId) : Log (w.alloc (.cells (logCells rev t u bt) ty)) L rev t u bt := by
  intro i v hi
  rw [World.cell?_alloc_at _ _ _ _ hL]; exact hi

theorem says_no {w : World} {s : ByteArray} : Says w false s none := .inl ⟨rfl, rfl⟩
theorem says_new {w : World} {s : ByteArray} {T : Nat} (hT : T = w.heap.size) (ty : TypeId) : Says (w.alloc (.cells #[.string s] ty)) true s (some ⟨T, 0, none⟩) :=
  .inr ⟨rfl, T, rfl, by rw [World.cell?_alloc_at _ _ _ _ hT]; rfl⟩
theorem Says.later {w w' : World} {b : Bool} {s : ByteArray} {t : Option Addr} (h : Says w b s t) (hb : Below w.heap.size w w') : Says w' b s t := by
  rcases h with h | ⟨h, T, h1, h2⟩
  · exact .inl h
  · have hT := block_lt_of_cell h2
    exact .inr ⟨h, T, h1, (hb.cell (by exact hT)).trans h2⟩
theorem Says.alloc {w : World} {b : Bool} {s : ByteArray} {t : Option Addr} (h : Says w b s t) (o : Go.Obj) : Says (w.alloc o) b s t :=
  h.later ((Below.refl _ _).alloc (Nat.le_refl _) _)

theorem log_get {rev : Int} {t u : Option Addr} {bt bt' : Value} {i : Nat} (h : i ≠ 15) : (logCells rev t u bt)[i]? = (logCells rev t u bt')[i]? := by
  match i, h with
  | 0, _ => rfl
  | 1, _ => rfl
  | 2, _ => rfl
  | 3, _ => rfl
  | 4, _ => rfl
  | 5, _ => rfl
  | 6, _ => rfl
  | 7, _ => rfl
  | 8, _ => rfl
  | 9, _ => rfl
  | 10, _ => rfl
  | 11, _ => rfl
  | 12, _ => rfl
  | 13, _ => rfl
  | 14, _ => rfl
  | 15, h => exact absurd rfl h
  | k + 16, _ => rfl

theorem bat_log {w0 wr : World} {L A n k : Nat} {Tg : Nat → ByteArray} {rev : Int} {t u : Option Addr} {bt : Value} (h : Bat w0 wr L A n k Tg) (hl : Log w0 L rev t u bt) :
    Log wr L rev t u (.slice (some ⟨A, 0, none⟩) n n) := by
  intro i v hi
  by_cases e : i = 15
  · subst e
    have : v = .slice (some ⟨A, 0, none⟩) n n := (Option.some.inj hi).symm
    rw [this]; exact h.c15
  · rw [h.old L i h.la (.inr e)]
    exact hl i v (by rw [log_get (bt' := .slice (some ⟨A, 0, none⟩) n n) e]; exact hi)

theorem bat_says {w0 wr : World} {L A n k : Nat} {Tg : Nat → ByteArray} {b : Bool} {s : ByteArray} {t : Option Addr} (h : Bat w0 wr L A n k Tg) (hA : A = w0.heap.size) (hs : Says w0 b s t) : Says wr b s t := by
  rcases hs with hs | ⟨hs, T, h1, h2⟩
  · exact .inl hs
  · have hT := block_lt_of_cell h2
    exact .inr ⟨hs, T, h1, by rw [h.old T 0 (by subst hA; exact hT) (.inr (by omega))]; exact h2⟩

/-- The n strings Tg lie where the slice's address leads. -/
def Strs (w : World) (a : Option Addr) (n : Nat) (Tg : Nat → ByteArray) : Prop :=
  ∀ i, i < n → ∃ b off, a = some ⟨b, off, none⟩ ∧ b < w.heap.size ∧ w.cell? ⟨b, off + i, none⟩ = some (.string (Tg i))

theorem Strs.later {w w' : World} {a : Option Addr} {n : Nat} {Tg : Nat → ByteArray} (h : Strs w a n Tg) (hb : Below w.heap.size w w') : Strs w' a n Tg := by
  intro i hi
  obtain ⟨b, off, h1, h2, h3⟩ := h i hi
  have := hb.size
  exact ⟨b, off, h1, by omega, (hb.cell (by exact h2)).trans h3⟩

theorem put14 (wr : World) (A p : Nat) (c : Option Addr) (h : ∀ j, j < 14 → wr.cell? ⟨A, p + j, none⟩ = some (.pointer none)) :
    Put wr ((((((((((((((wr.setCell ⟨A, p, none⟩ (.pointer c)).setCell ⟨A, p + 1, none⟩ (.pointer none)).setCell ⟨A, p + 2, none⟩ (.pointer none)).setCell ⟨A, p + 3, none⟩ (.pointer none)).setCell ⟨A, p + 4, none⟩ (.pointer none)).setCell ⟨A, p + 5, none⟩ (.pointer none)).setCell ⟨A, p + 6, none⟩ (.pointer none)).setCell ⟨A, p + 7, none⟩ (.pointer none)).setCell ⟨A, p + 8, none⟩ (.pointer none)).setCell ⟨A, p + 9, none⟩ (.pointer none)).setCell ⟨A, p + 10, none⟩ (.pointer none)).setCell ⟨A, p + 11, none⟩ (.pointer none)).setCell ⟨A, p + 12, none⟩ (.pointer none)).setCell ⟨A, p + 13, none⟩ (.pointer none)) A p (recCells c none).toList :=
  ((((((((((((((Put.start wr A p).next (h 0 (by omega)) _).next (h 1 (by omega)) _).next (h 2 (by omega)) _).next (h 3 (by omega)) _).next (h 4 (by omega)) _).next (h 5 (by omega)) _).next (h 6 (by omega)) _).next (h 7 (by omega)) _).next (h 8 (by omega)) _).next (h 9 (by omega)) _).next (h 10 (by omega)) _).next (h 11 (by omega)) _).next (h 12 (by omega)) _).next (h 13 (by omega)) _
end Go.Proofs.Qxb6614307a
