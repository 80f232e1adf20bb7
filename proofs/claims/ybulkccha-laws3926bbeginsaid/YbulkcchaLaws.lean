/-
  LawS3926BTake, LawS3926BBegin: the walks.
-/
import Derived.Test.YbulkcchaWalk2
namespace Go.Proofs.Ybulkccha
open Go.ChangeShapes Go.WideShapes Go.ChangeAt Go.RowKit

/-- a new block, then stores into it alone: nothing that was there has turned -/
theorem below_box {w w' : World} {o : Obj} (hg : (w.alloc o).grownBy w' (some w.heap.size)) : Below w.heap.size w w' :=
  ((Below.refl _ _).alloc (Nat.le_refl _) o).grown hg (by simp) (fun k hk => by simp at hk; omega)

set_option maxHeartbeats 2000000 in
theorem take_core (a0 : Option Addr) (n0 c0 : Nat) (Z0 : Nat → Int) (a1 : Option Addr) (n1 c1 : Nat) (Z1 : Nat → Int) (cp : Bool) (ap : Int) (w : World) (h0 : n0 ≤ 4096) (h1 : n1 ≤ 4096)
    (nil0 : a0 = none → n0 = 0 ∧ c0 = 0) (nil1 : a1 = none → n1 = 0 ∧ c1 = 0) (r0 : RowB w a0 n0 Z0) (r1 : RowB w a1 n1 Z1) :
    Calls Yba.prog 3 #[.slice a0 n0 c0, .slice a1 n1 c1, .bool cp, .int .u64 ap] w fun e w' => e = .returned (.bool true) ∧ Below w.heap.size w w' := by
  have hd0 : decide ((4096 : Int) < (n0 : Int)) = false := decide_eq_false (by omega)
  have hd1 : decide ((4096 : Int) < (n1 : Int)) = false := decide_eq_false (by omega)
  have hnn := fun wx => run_neq_slice_nil_any (P := Yba.prog) wx 22 5 none 0 0 0 0 Yba.underlying22
  go_enter Yba.func3, Yba.ntmps3
  go_wp2_with fail
  refine (clone_any a0 n0 c0 Z0 w h0 nil0 r0).mono ?_
  rintro e w1 ⟨x0, d0, rfl, i0, nx0, k0, row0, b1⟩
  go_wp2_with fail
  refine (clone_any a1 n1 c1 Z1 w1 h1 nil1 (r1.below b1)).mono ?_
  rintro e w2 ⟨x1, d1, rfl, i1, nx1, k1, row1, b2⟩
  have B2 : Below w.heap.size w w2 := b1.trans (b2.mono b1.size)
  have R0 := r0.below B2
  have R1 := r1.below B2
  have row0' := row0.below b2
  clear row0 b1 b2 k0 k1 r0 r1
  go_wp2_with fail
  refine (take_any w2.heap.size (.slice x1 n1 d1) ap cp (.slice x0 n0 d0) _ ⟨_, _, _, rfl⟩ (heap_alloc_new w2 _)).mono ?_
  rintro e w4 ⟨rfl, L4, g4⟩
  have B4 := below_box g4
  have R0' := R0.below B4
  have R1' := R1.below B4
  have row0'' := row0'.below B4
  have row1' := row1.below B4
  have BB : Below w.heap.size w w4 := B2.trans (B4.mono B2.size)
  clear R1 row1 g4
  go_wp2_with fail
  refine (same_any x0 a0 n0 d0 c0 Z0 w4 h0 nx0 nil0 i0 row0'' R0').mono ?_
  rintro e w5 ⟨rfl, q, rfl⟩
  have hc := L4.cell
  unfold logCells at hc
  go_wp2_with fail
  refine (same_any x1 a1 n1 d1 c1 Z1 _ h1 nx1 nil1 i1 (row1'.drewN q) (R1'.drewN q)).mono ?_
  rintro e w6 ⟨rfl, q2, rfl⟩
  go_wp2_with fail
  refine (take_any w2.heap.size (.slice x1 n1 d1) ap cp (.slice none 0 0) (w4.drewN (q + q2)) ⟨_, _, _, rfl⟩ L4).mono ?_
  rintro e w7 ⟨rfl, L7, g7⟩
  have B7 : Below w2.heap.size w2 w7 := (below_drewN B4 (q + q2)).grown g7 (by simpa using B4.size) (fun k hk => by simp at hk; omega)
  have R7 := R0.below B7
  have row7 := row0'.below B7
  have BB7 : Below w.heap.size w w7 := B2.trans (B7.mono B2.size)
  clear R0 row0' B7 B4 B2 g7 R0' R1' row0'' row1' hc L4 BB
  have hc7 := L7.cell
  unfold logCells at hc7
  clear L7
  go_wp2_with fail
  refine (same_any x0 a0 n0 d0 c0 Z0 w7 h0 nx0 nil0 i0 row7 R7).mono ?_
  rintro e w8 ⟨rfl, q3, rfl⟩
  go_wp2
  go_ret
  exact ⟨rfl, below_drewN BB7 _⟩

set_option maxHeartbeats 2000000 in
theorem begin_core (a0 : Option Addr) (n0 c0 : Nat) (Z0 : Nat → Int) (en : Bool) (w : World) (h0 : n0 ≤ 4096) (nil0 : a0 = none → n0 = 0 ∧ c0 = 0) (r0 : RowB w a0 n0 Z0) :
    Calls Yba.prog 4 #[.slice a0 n0 c0, .bool en] w fun e w' => e = .returned (.bool true) ∧ Below w.heap.size w w' := by
  have hd0 : decide ((4096 : Int) < (n0 : Int)) = false := decide_eq_false (by omega)
  have hnn := fun wx => run_neq_slice_nil_any (P := Yba.prog) wx 22 5 none 0 0 0 0 Yba.underlying22
  go_enter Yba.func4, Yba.ntmps4
  go_wp2_with fail
  refine (clone_any a0 n0 c0 Z0 w h0 nil0 r0).mono ?_
  rintro e w1 ⟨x0, d0, rfl, i0, nx0, k0, row0, b1⟩
  clear row0 k0 nx0 i0 r0
  go_wp2_with fail
  refine (begin_any w1.heap.size (.slice none 0 0) 0 false (.slice x0 n0 d0) _ ⟨_, _, _, rfl⟩ (heap_alloc_new w1 _)).mono ?_
  rintro e w4 ⟨rfl, L4, g4⟩
  have B4 := below_box g4
  have BB : Below w.heap.size w w4 := b1.trans (B4.mono b1.size)
  clear g4
  have hs := b1.size
  cases en
  · go_wp2_with fail
    refine (take_any w1.heap.size (.slice none 0 0) 0 true (.slice none 0 0) _ ⟨_, _, _, rfl⟩ L4).mono ?_
    rintro e w7 ⟨rfl, L7, g7⟩
    have B7 : Below w.heap.size w w7 := BB.grown g7 BB.size (fun k hk => by simp at hk; omega)
    have hc7 := L7.cell
    unfold logCells at hc7
    clear L7 L4 BB B4 g7
    go_wp2
    go_ret
    exact ⟨rfl, B7⟩
  · go_wp2_with fail
    refine (end_any w1.heap.size (.slice none 0 0) 0 true (.slice none 0 0) _ ⟨_, _, _, rfl⟩ L4).mono ?_
    rintro e w5 ⟨rfl, L5, g5⟩
    have B5 : Below w.heap.size w w5 := BB.grown g5 BB.size (fun k hk => by simp at hk; omega)
    clear L4 g5 BB B4
    go_wp2_with fail
    refine (take_any w1.heap.size (.slice none 0 0) 0 false (.slice none 0 0) _ ⟨_, _, _, rfl⟩ L5).mono ?_
    rintro e w7 ⟨rfl, L7, g7⟩
    have B7 : Below w.heap.size w w7 := B5.grown g7 B5.size (fun k hk => by simp at hk; omega)
    have hc7 := L7.cell
    unfold logCells at hc7
    clear L7 L5 B5 g7
    go_wp2
    go_ret
    exact ⟨rfl, B7⟩
end Go.Proofs.Ybulkccha
