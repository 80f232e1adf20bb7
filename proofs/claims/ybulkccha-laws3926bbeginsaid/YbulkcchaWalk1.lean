/-
  takeCopied, beginCopy, endCopy: one goroutine, the lock free.
-/
import Derived.Test.YbulkcchaLocks
import Derived.WalkKit
import Derived.ProofKit
import Derived.Below
import Derived.WalkSmall
import Derived.WalkSpells
import Derived.Deep.QuietTactic
import Derived.BigQuiet
namespace Go.Proofs.Ybulkccha
open Go.ChangeShapes Go.WideShapes Go.ChangeAt Go.RowKit
open Go.MuLone

/-- block b is a writeLog whose lock is free, with these four fields, all others zero -/
def logCells (pend : Value) (app : Int) (cpy : Bool) (cop : Value) : Array Value :=
  #[.string ⟨#[]⟩, .int .i64 0, .int .i32 0, .int .u32 0, .pointer none, .pointer none, pend, .int .u64 app, .int .u64 0, .bool false, .bool false, .int .i64 0, .int .i64 0, .chan none, .bool cpy, cop, .nilIface, .chan none]
def LogAt (w : World) (b : Nat) (pend : Value) (app : Int) (cpy : Bool) (cop : Value) : Prop := w.heap[b]? = some (.cells (logCells pend app cpy cop) 39 (0, 0))

theorem LogAt.cell {w : World} {b : Nat} {pend : Value} {app : Int} {cpy : Bool} {cop : Value} (h : LogAt w b pend app cpy cop) (j : Nat) : w.cell? ⟨b, j, none⟩ = (logCells pend app cpy cop)[j]? := by
  simp [World.cell?, show w.heap[b]? = _ from h]
theorem LogAt.free {w : World} {b : Nat} {pend : Value} {app : Int} {cpy : Bool} {cop : Value} (h : LogAt w b pend app cpy cop) (j : Nat) : w.frozen? ⟨b, j, none⟩ = false := by
  simp [World.frozen?, show w.heap[b]? = _ from h]

/-- three stores into one block -/
theorem grown_three (w : World) (b i j k : Nat) (x y z : Value) : w.grownBy (((w.setCell ⟨b, i, none⟩ x).setCell ⟨b, j, none⟩ y).setCell ⟨b, k, none⟩ z) (some b) :=
  ⟨rfl, rfl, rfl, by simp, fun n _ hn => by
    have hne : n ≠ b := fun e => hn (by rw [e])
    rw [heap_setCell_other _ _ _ _ hne, heap_setCell_other _ _ _ _ hne, heap_setCell_other _ _ _ _ hne]⟩

theorem grown_four (w : World) (b i j k l : Nat) (x y z u : Value) : w.grownBy ((((w.setCell ⟨b, i, none⟩ x).setCell ⟨b, j, none⟩ y).setCell ⟨b, k, none⟩ z).setCell ⟨b, l, none⟩ u) (some b) :=
  ⟨rfl, rfl, rfl, by simp, fun n _ hn => by
    have hne : n ≠ b := fun e => hn (by rw [e])
    rw [heap_setCell_other _ _ _ _ hne, heap_setCell_other _ _ _ _ hne, heap_setCell_other _ _ _ _ hne, heap_setCell_other _ _ _ _ hne]⟩

set_option maxHeartbeats 1000000 in
theorem take_any (b : Nat) (pend : Value) (app : Int) (cpy : Bool) (cop : Value) (w : World) (hs : ∃ a n c, cop = .slice a n c) (h : LogAt w b pend app cpy cop) :
    Calls Yba.prog 6 #[.pointer (some ⟨b, 0, none⟩)] w fun e w' => e = .returned cop ∧ LogAt w' b pend app cpy (.slice none 0 0) ∧ w.grownBy w' (some b) := by
  obtain ⟨a, n, c, rfl⟩ := hs
  have h2 : w.cell? ⟨b, 2, none⟩ = some (.int .i32 0) := h.cell 2
  have h15 : w.cell? ⟨b, 15, none⟩ = some (.slice a n c) := h.cell 15
  have f2 := h.free 2
  have f15 := h.free 15
  have HL : Hid (LogAt w b pend app cpy (.slice a n c)) := h
  clear h
  go_enter_defers Yba.func6, Yba.ntmps6
  go_wp2_with (go_at_call 10; refine (lock_free Yba.muLib ⟨b, 2, none⟩ _ h2 f2).mono ?_; rintro e w' ⟨rfl, rfl⟩)
  refine leaves_cons (f := 11) (args := #[.pointer (some ⟨b, 2, none⟩)]) (by simp) (by simp [go_sem]) ?_
  refine (unlock_deferred Yba.muLib ⟨b, 2, none⟩ .returning _ ?_ ?_).mono ?_
  · exact (World.cell?_setCell_other _ ⟨b, 15, none⟩ ⟨b, 2, none⟩ _ (by simp)).trans (World.cell?_setCell_same w ⟨b, 2, none⟩ (.int .i32 1) h2)
  · simp [f2]
  rintro e u' w'' ⟨rfl, rfl, rfl⟩
  refine ⟨_, results_tmp rfl _ _ _, rfl, ?_, grown_three w b 2 15 2 _ _ _⟩
  have hh : w.heap[b]? = some (.cells (logCells pend app cpy (.slice a n c)) 39 (0, 0)) := HL.out
  have e3 := heap_setCell_same _ b 2 _ 39 (.int .i32 0) (heap_setCell_same _ b 15 _ 39 (.slice none 0 0) (heap_setCell_same w b 2 _ 39 (.int .i32 1) hh))
  simpa [LogAt, logCells] using e3


set_option maxHeartbeats 1000000 in
theorem begin_any (b : Nat) (pend : Value) (app : Int) (cpy : Bool) (cop : Value) (w : World) (hs : ∃ a n c, cop = .slice a n c) (h : LogAt w b pend app cpy cop) :
    Calls Yba.prog 8 #[.pointer (some ⟨b, 0, none⟩)] w fun e w' => e = .returned (.tuple #[]) ∧ LogAt w' b pend app true (.slice none 0 0) ∧ w.grownBy w' (some b) := by
  obtain ⟨a, n, c, rfl⟩ := hs
  have h2 : w.cell? ⟨b, 2, none⟩ = some (.int .i32 0) := h.cell 2
  have h14 : w.cell? ⟨b, 14, none⟩ = some (.bool cpy) := h.cell 14
  have h15 : w.cell? ⟨b, 15, none⟩ = some (.slice a n c) := h.cell 15
  have f2 := h.free 2
  have f14 := h.free 14
  have f15 := h.free 15
  have HL : Hid (LogAt w b pend app cpy (.slice a n c)) := h
  clear h
  go_enter_defers Yba.func8, Yba.ntmps8
  go_wp2_with (go_at_call 10; refine (lock_free Yba.muLib ⟨b, 2, none⟩ _ h2 f2).mono ?_; rintro e w' ⟨rfl, rfl⟩)
  refine leaves_cons (f := 11) (args := #[.pointer (some ⟨b, 2, none⟩)]) (by simp) (by simp [go_sem]) ?_
  refine (unlock_deferred Yba.muLib ⟨b, 2, none⟩ .returning _ ?_ ?_).mono ?_
  · exact (World.cell?_setCell_other _ ⟨b, 15, none⟩ ⟨b, 2, none⟩ _ (by simp)).trans ((World.cell?_setCell_other _ ⟨b, 14, none⟩ ⟨b, 2, none⟩ _ (by simp)).trans (World.cell?_setCell_same w ⟨b, 2, none⟩ (.int .i32 1) h2))
  · simp [f2]
  rintro e u' w'' ⟨rfl, rfl, rfl⟩
  refine ⟨_, results_none rfl _ _ _, rfl, ?_, grown_four w b 2 14 15 2 _ _ _ _⟩
  have hh : w.heap[b]? = some (.cells (logCells pend app cpy (.slice a n c)) 39 (0, 0)) := HL.out
  have e3 := heap_setCell_same _ b 2 _ 39 (.int .i32 0) (heap_setCell_same _ b 15 _ 39 (.slice none 0 0) (heap_setCell_same _ b 14 _ 39 (.bool true) (heap_setCell_same w b 2 _ 39 (.int .i32 1) hh)))
  simpa [LogAt, logCells] using e3

set_option maxHeartbeats 1000000 in
theorem end_any (b : Nat) (pend : Value) (app : Int) (cpy : Bool) (cop : Value) (w : World) (hs : ∃ a n c, cop = .slice a n c) (h : LogAt w b pend app cpy cop) :
    Calls Yba.prog 9 #[.pointer (some ⟨b, 0, none⟩)] w fun e w' => e = .returned (.tuple #[]) ∧ LogAt w' b pend app false (.slice none 0 0) ∧ w.grownBy w' (some b) := by
  obtain ⟨a, n, c, rfl⟩ := hs
  have h2 : w.cell? ⟨b, 2, none⟩ = some (.int .i32 0) := h.cell 2
  have h14 : w.cell? ⟨b, 14, none⟩ = some (.bool cpy) := h.cell 14
  have h15 : w.cell? ⟨b, 15, none⟩ = some (.slice a n c) := h.cell 15
  have f2 := h.free 2
  have f14 := h.free 14
  have f15 := h.free 15
  have HL : Hid (LogAt w b pend app cpy (.slice a n c)) := h
  clear h
  go_enter_defers Yba.func9, Yba.ntmps9
  go_wp2_with (go_at_call 10; refine (lock_free Yba.muLib ⟨b, 2, none⟩ _ h2 f2).mono ?_; rintro e w' ⟨rfl, rfl⟩)
  refine leaves_cons (f := 11) (args := #[.pointer (some ⟨b, 2, none⟩)]) (by simp) (by simp [go_sem]) ?_
  refine (unlock_deferred Yba.muLib ⟨b, 2, none⟩ .returning _ ?_ ?_).mono ?_
  · exact (World.cell?_setCell_other _ ⟨b, 15, none⟩ ⟨b, 2, none⟩ _ (by simp)).trans ((World.cell?_setCell_other _ ⟨b, 14, none⟩ ⟨b, 2, none⟩ _ (by simp)).trans (World.cell?_setCell_same w ⟨b, 2, none⟩ (.int .i32 1) h2))
  · simp [f2]
  rintro e u' w'' ⟨rfl, rfl, rfl⟩
  refine ⟨_, results_none rfl _ _ _, rfl, ?_, grown_four w b 2 14 15 2 _ _ _ _⟩
  have hh : w.heap[b]? = some (.cells (logCells pend app cpy (.slice a n c)) 39 (0, 0)) := HL.out
  have e3 := heap_setCell_same _ b 2 _ 39 (.int .i32 0) (heap_setCell_same _ b 15 _ 39 (.slice none 0 0) (heap_setCell_same _ b 14 _ 39 (.bool false) (heap_setCell_same w b 2 _ 39 (.int .i32 1) hh)))
  simpa [LogAt, logCells] using e3
end Go.Proofs.Ybulkccha
