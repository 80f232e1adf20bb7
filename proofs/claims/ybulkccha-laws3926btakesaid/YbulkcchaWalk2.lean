/-
  zzs3926bclone, zzs3926bsame.
-/
import Derived.Test.YbulkcchaWalk1
import Derived.Lib.SliceRun
namespace Go.Proofs.Ybulkccha
open Go.ChangeShapes Go.WideShapes Go.ChangeAt Go.RowKit

/-- a slice of bytes: where it has an element, it leads to cells that hold Z -/
def RowB (w : World) (a : Option Addr) (n : Nat) (Z : Nat → Int) : Prop :=
  0 < n → ∃ b o, a = some ⟨b, o, none⟩ ∧ b < w.heap.size ∧ ∀ j, j < n → w.cell? ⟨b, o + j, none⟩ = some (.int .u8 (Z j))

theorem RowB.below {w w' : World} {a : Option Addr} {n : Nat} {Z : Nat → Int} (h : RowB w a n Z) (hb : Below w.heap.size w w') : RowB w' a n Z := by
  intro hp
  obtain ⟨b, o, e, hl, hc⟩ := h hp
  exact ⟨b, o, e, Nat.lt_of_lt_of_le hl hb.size, fun j hj => (hb.cell (by exact hl)).trans (hc j hj)⟩

theorem RowB.grown {w w' : World} {a : Option Addr} {n : Nat} {Z : Nat → Int} {k : Nat} (h : RowB w a n Z) (hg : w.grownBy w' (some k)) (hk : ∀ x, a = some x → x.block ≠ k) : RowB w' a n Z := by
  intro hp
  obtain ⟨b, o, e, hl, hc⟩ := h hp
  refine ⟨b, o, e, Nat.lt_of_lt_of_le hl hg.size, fun j hj => ?_⟩
  rw [World.cell?_of_block (w := w) (hg.block b hl (by have := hk _ e; simpa using this))]
  exact hc j hj

theorem RowB.drewN {w : World} {a : Option Addr} {n : Nat} {Z : Nat → Int} (h : RowB w a n Z) (q : Nat) : RowB (w.drewN q) a n Z := h

theorem Yba.info5 : (Yba.prog.info? 5).map (fun i => (i.zero, i.size, i.bytes)) = some (some (.int .u8 0), 1, 1) := by kernel_rfl

/-- the first k of n bytes are laid -/
def Laid (B n k : Nat) (Z : Nat → Int) (wr : World) : Prop :=
  B < wr.heap.size ∧ (∀ j, j < n → ∃ v, wr.cell? ⟨B, j, none⟩ = some v) ∧ (∀ j, wr.frozen? ⟨B, j, none⟩ = false) ∧ ∀ j, j < k → wr.cell? ⟨B, j, none⟩ = some (.int .u8 (Z j))

theorem laid_make {w w1 : World} {n : Nat} (Z : Nat → Int) {z : Value}
    (hown : w1.ownsRow w.heap.size 5 1 (.slice (some ⟨w.heap.size, 0, none⟩) n n) n (madeCells z.cells (n * 1)).toList) (hgrow : w.grownBy w1 none) :
    Laid w.heap.size n 0 Z w1 ∧ Below w.heap.size w w1 := by
  refine ⟨⟨(hown.lt w.heap.size rfl).2, ?_, hown.frozenAt, fun j h => absurd h (by omega)⟩, (Below.refl _ _).grown hgrow (Nat.le_refl _) (by simp)⟩
  intro j hj
  have h1 := hown.1
  rw [hown.cellAt j (by omega)]
  exact ⟨_, List.getElem?_eq_getElem (by omega)⟩

theorem laid_step {wr : World} {B n k : Nat} {Z : Nat → Int} (h : Laid B n k Z wr) (hk : k < n) : Laid B n (k + 1) Z (wr.setCell ⟨B, k, none⟩ (.int .u8 (Z k))) := by
  obtain ⟨h1, h2, h3, h4⟩ := h
  obtain ⟨v0, g0⟩ := h2 k hk
  have at0 := World.cell?_setCell_same wr ⟨B, k, none⟩ (.int .u8 (Z k)) g0
  have other : ∀ j, j ≠ k → (wr.setCell ⟨B, k, none⟩ (.int .u8 (Z k))).cell? ⟨B, j, none⟩ = wr.cell? ⟨B, j, none⟩ := fun j hj =>
    World.cell?_setCell_other _ _ _ _ (by intro e; exact hj (by simpa using (congrArg Addr.off e).symm))
  refine ⟨by simpa using h1, fun j hj => ?_, fun j => by simpa using h3 j, fun j hj => ?_⟩
  · by_cases e : j = k
    · subst e; exact ⟨_, at0⟩
    · rw [other j e]; exact h2 j hj
  · by_cases e : j = k
    · subst e; exact at0
    · rw [other j e]; exact h4 j (by omega)

theorem clone_nil (w : World) : Calls Yba.prog 5 #[.slice none 0 0] w fun e w' => e = .returned (.slice none 0 0) ∧ w' = w := by
  have hq := fun wx => Lib.run_eql_slice_nil (P := Yba.prog) wx 22 5 none 0 0 0 0 Yba.underlying22
  go_enter Yba.func5, Yba.ntmps5
  go_wp2
  go_ret
  exact ⟨rfl, rfl⟩

set_option maxHeartbeats 1000000 in
theorem clone_some (x : Addr) (n c : Nat) (Z : Nat → Int) (w : World) (hn : n ≤ 4096) (r : RowB w (some x) n Z) :
    Calls Yba.prog 5 #[.slice (some x) n c] w fun e w' => e = .returned (.slice (some ⟨w.heap.size, 0, none⟩) n n) ∧ RowB w' (some ⟨w.heap.size, 0, none⟩) n Z ∧ Below w.heap.size w w' ∧ w.heap.size < w'.heap.size := by
  have hq := fun wx => Lib.run_eql_slice_nil (P := Yba.prog) wx 22 5 (some x) n c 0 0 Yba.underlying22
  simp only [Option.isNone_some] at hq
  obtain ⟨i0, hi, hz0, hz1, hz2⟩ := info_parts Yba.info5
  go_enter Yba.func5, Yba.ntmps5
  go_wp2_with (first | (at_make; refine wpList_make_full _ rfl _ _ 22 rfl w.heap.size 5 i0 _ 1 Yba.underlying22 hi hz0 hz1 _ _ _ _ n rfl rfl rfl rfl (by rw [hz2]; omega) (by unfold maxLen; omega) (Nat.le_refl _) ?_; intro w1 hown hgrow))
  have fm := laid_make Z hown hgrow
  clear hown hgrow hi hz0 hz1 hz2 hq
  go_loopw [4] (fun i wr => ∃ k : Nat, k ≤ n ∧ i = .int .i64 k ∧ Laid w.heap.size n k Z wr ∧ Below w.heap.size w wr) (fun i _ => n - (intOf i).toNat)
  case atStart => exact ⟨0, Nat.zero_le _, rfl, fm.1, fm.2⟩
  case round =>
    clear fm
    obtain ⟨k, hk, rfl, hf, hb⟩ := hrel
    have hbs := hb.size
    by_cases hlt : k < n
    · obtain ⟨b0, o0, hx, hb0, hc0⟩ := r (by omega)
      simp only [Option.some.injEq] at hx
      subst hx
      have cu : wr.cell? ⟨b0, o0 + k, none⟩ = some (.int .u8 (Z k)) := (hb.cell (by exact hb0)).trans (hc0 k hlt)
      obtain ⟨v0, g0⟩ := hf.2.1 k hlt
      have z0 := hf.2.2.1 k
      have Hf : Hid (Laid w.heap.size n (k + 1) Z (wr.setCell ⟨w.heap.size, k, none⟩ (.int .u8 (Z k)))) := laid_step hf hlt
      clear hf
      go_wp2
      go_roundw
      case rel => exact ⟨k + 1, by omega, by go_num, Hf.out, hb.setCell (Nat.le_refl _) _⟩
      case measure => simp [intOf]; omega
    · obtain rfl : k = n := by omega
      go_wp2
      go_ret
      exact ⟨rfl, fun _ => ⟨w.heap.size, 0, rfl, hf.1, fun j hj => by rw [Nat.zero_add]; exact hf.2.2.2 j hj⟩, hb, hf.1⟩

theorem clone_any (a : Option Addr) (n c : Nat) (Z : Nat → Int) (w : World) (hn : n ≤ 4096) (hnil : a = none → n = 0 ∧ c = 0) (r : RowB w a n Z) :
    Calls Yba.prog 5 #[.slice a n c] w fun e w' => ∃ a' c', e = .returned (.slice a' n c') ∧ (a' = none ↔ a = none) ∧ (a' = none → n = 0 ∧ c' = 0) ∧ (∀ x, a' = some x → w.heap.size ≤ x.block ∧ x.block < w'.heap.size) ∧ RowB w' a' n Z ∧ Below w.heap.size w w' := by
  cases a with
  | none =>
    obtain ⟨rfl, rfl⟩ := hnil rfl
    refine (clone_nil w).mono ?_
    rintro e w' ⟨rfl, rfl⟩
    exact ⟨none, 0, rfl, Iff.rfl, fun _ => ⟨rfl, rfl⟩, fun x h => (by cases h), fun h => absurd h (by omega), Below.refl _ _⟩
  | some x =>
    refine (clone_some x n c Z w hn r).mono ?_
    rintro e w' ⟨rfl, h1, h2, h3⟩
    refine ⟨_, n, rfl, by simp, by simp, ?_, h1, h2⟩
    rintro y hy
    simp only [Option.some.injEq] at hy
    subst hy
    exact ⟨Nat.le_refl _, h3⟩

set_option maxHeartbeats 1000000 in
theorem same_some (x y : Addr) (n c d : Nat) (Z : Nat → Int) (w : World) (hn : n ≤ 4096) (r : RowB w (some x) n Z) (r' : RowB w (some y) n Z) :
    Calls Yba.prog 7 #[.slice (some x) n c, .slice (some y) n d] w fun e w' => e = .returned (.bool true) ∧ ∃ q, w' = w.drewN q := by
  have hq := fun wx => Lib.run_eql_slice_nil (P := Yba.prog) wx 22 5 (some x) n c 0 0 Yba.underlying22
  have hq' := fun wx => Lib.run_eql_slice_nil (P := Yba.prog) wx 22 5 (some y) n d 0 0 Yba.underlying22
  simp only [Option.isNone_some] at hq hq'
  go_enter Yba.func7, Yba.ntmps7
  go_wp2
  clear hq hq'
  go_loopw [5] (fun i wr => ∃ k : Nat, k ≤ n ∧ i = .int .i64 k ∧ ∃ q, wr = w.drewN q) (fun i _ => n - (intOf i).toNat)
  case atStart => exact ⟨0, Nat.zero_le _, rfl, 0, rfl⟩
  case round =>
    obtain ⟨k, hk, rfl, q, rfl⟩ := hrel
    by_cases hlt : k < n
    · obtain ⟨b0, o0, hx, hb0, hc0⟩ := r (by omega)
      obtain ⟨b1, o1, hy, hb1, hc1⟩ := r' (by omega)
      simp only [Option.some.injEq] at hx hy
      subst hx
      subst hy
      have c0 := hc0 k hlt
      have c1 := hc1 k hlt
      clear hc0 hc1
      go_wp2
      go_quiet (fail)
      go_wp2
      go_roundw
      case rel => exact ⟨k + 1, by omega, by go_num, _, rfl⟩
      case measure => simp [intOf]; omega
    · obtain rfl : k = n := by omega
      go_wp2
      go_ret
      exact ⟨rfl, _, rfl⟩

theorem same_nil (w : World) : Calls Yba.prog 7 #[.slice none 0 0, .slice none 0 0] w fun e w' => e = .returned (.bool true) ∧ w' = w := by
  have hq := fun wx => Lib.run_eql_slice_nil (P := Yba.prog) wx 22 5 none 0 0 0 0 Yba.underlying22
  go_enter Yba.func7, Yba.ntmps7
  go_wp2
  refine wp_loop_rounds 1 ?_
  rw [rounds_succ]
  go_wp2
  go_ret
  exact ⟨rfl, rfl⟩

theorem same_any (a a' : Option Addr) (n c d : Nat) (Z : Nat → Int) (w : World) (hn : n ≤ 4096) (hnil : a = none → n = 0 ∧ c = 0) (hnil' : a' = none → n = 0 ∧ d = 0) (hi : a = none ↔ a' = none) (r : RowB w a n Z) (r' : RowB w a' n Z) :
    Calls Yba.prog 7 #[.slice a n c, .slice a' n d] w fun e w' => e = .returned (.bool true) ∧ ∃ q, w' = w.drewN q := by
  cases a with
  | none =>
    obtain rfl := hi.1 rfl
    obtain ⟨rfl, rfl⟩ := hnil rfl
    obtain ⟨_, rfl⟩ := hnil' rfl
    refine (same_nil w).mono ?_
    rintro e w' ⟨rfl, rfl⟩
    exact ⟨rfl, 0, rfl⟩
  | some x =>
    cases a' with
    | none => exact absurd (hi.2 rfl) (by simp)
    | some y => exact same_some x y n c d Z w hn r r'
end Go.Proofs.Ybulkccha
