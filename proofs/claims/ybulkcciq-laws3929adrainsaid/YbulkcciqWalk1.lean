/-
  The UE's slots in memory; zzs3929abuild, ebiSlot.held, ueEBIs.lowestFree.
-/
import Derived.Test.YbulkcciqRows
import Derived.WalkKit
import Derived.ProofKit
import Derived.Below
import Derived.WalkSmall
import Derived.WalkSpells
import Derived.Deep.MidRow
namespace Go.Proofs.Ybulkcciq
open Go.ChangeShapes Go.WideShapes Go.ChangeAt Go.RowKit

/-- one slot's seven cells -/
def sl (e o : Int) : List Value := [.int .u8 e, .int .u8 0, .bool false, .int .u8 0, .string ⟨#[]⟩, .string ⟨#[]⟩, .int .u64 o]
/-- the eleven slots -/
def aC (E O : Nat → Int) : List Value := (List.range 11).flatMap fun j => sl (E j) (O j)
/-- a ueEBIs: the slots, then the count -/
def uC (E O : Nat → Int) : List Value := aC E O ++ [.int .u64 0]

def upd (O : Nat → Int) (i : Nat) (v : Int) : Nat → Int := fun j => if j = i then v else O j

theorem uC_len (E O : Nat → Int) : (uC E O).length = 78 := rfl
theorem aC_len (E O : Nat → Int) : (aC E O).length = 77 := rfl
theorem uC_at (E O : Nat → Int) (j : Nat) (h : j < 11) : (uC E O)[j * 7 + 6]? = some (.int .u64 (O j)) := by
  match j, h with
  | 0, _ | 1, _ | 2, _ | 3, _ | 4, _ | 5, _ | 6, _ | 7, _ | 8, _ | 9, _ | 10, _ => rfl
theorem uC_at0 (E O : Nat → Int) (j : Nat) (h : j < 11) : (uC E O)[j * 7]? = some (.int .u8 (E j)) := by
  match j, h with
  | 0, _ | 1, _ | 2, _ | 3, _ | 4, _ | 5, _ | 6, _ | 7, _ | 8, _ | 9, _ | 10, _ => rfl
theorem uC_set (E O : Nat → Int) (j : Nat) (h : j < 11) (v : Int) : (uC E O).toArray.setIfInBounds (j * 7 + 6) (.int .u64 v) = (uC E (upd O j v)).toArray := by
  match j, h with
  | 0, _ | 1, _ | 2, _ | 3, _ | 4, _ | 5, _ | 6, _ | 7, _ | 8, _ | 9, _ | 10, _ => rfl
theorem uC_set0 (E O : Nat → Int) (j : Nat) (h : j < 11) (v : Int) : (uC E O).toArray.setIfInBounds (j * 7) (.int .u8 v) = (uC (upd E j v) O).toArray := by
  match j, h with
  | 0, _ | 1, _ | 2, _ | 3, _ | 4, _ | 5, _ | 6, _ | 7, _ | 8, _ | 9, _ | 10, _ => rfl

theorem flat_congr {f g : Nat → List Value} (h : ∀ j, j < 11 → f j = g j) : (List.range 11).flatMap f = (List.range 11).flatMap g := by
  rw [List.flatMap_def, List.flatMap_def, List.map_congr_left (fun j hj => h j (List.mem_range.1 hj))]

/-- block g is the ueEBIs with the EBIs E and the orders O -/
def UAt (w : World) (g : Nat) (E O : Nat → Int) : Prop := w.heap[g]? = some (.cells (uC E O).toArray 32 (0, 0))

theorem run_index (E O : Nat → Int) (k : Nat) (h : k < 11) (w : World) :
    (Instr.index 30 (.agg (aC E O).toArray) (.int .i64 (k : Int))).run Yba.prog w = .ok (.agg #[.int .u8 (E k), .int .u8 0, .bool false, .int .u8 0, .string ⟨#[]⟩, .string ⟨#[]⟩, .int .u64 (O k)]) w := by
  rcases (show k = 0 ∨ k = 1 ∨ k = 2 ∨ k = 3 ∨ k = 4 ∨ k = 5 ∨ k = 6 ∨ k = 7 ∨ k = 8 ∨ k = 9 ∨ k = 10 by omega) with rfl | rfl | rfl | rfl | rfl | rfl | rfl | rfl | rfl | rfl | rfl
  all_goals kernel_rfl

theorem held_any (e o : Int) (w : World) : Calls Yba.prog 7 #[.agg #[.int .u8 e, .int .u8 0, .bool false, .int .u8 0, .string ⟨#[]⟩, .string ⟨#[]⟩, .int .u64 o]] w fun x w' => x = .returned (.bool (o != 0)) ∧ Below w.heap.size w w' := by
  go_enter Yba.func7, Yba.ntmps7
  go_wp2
  go_ret
  exact ⟨rfl, (Below.refl _ _).alloc (Nat.le_refl _) _⟩

def RowAt (w : World) (a : Option Addr) (n : Nat) (U : Nat → Int) : Prop :=
  0 < n → ∃ b o, a = some ⟨b, o, none⟩ ∧ b < w.heap.size ∧ ∀ j, j < n → w.cell? ⟨b, o + j, none⟩ = some (.int .u64 (U j))

/-- the orders that are laid from n numbers U -/
def oz (n : Nat) (U : Nat → Int) (k : Nat) : Nat → Int := fun j => if j < n ∧ j < k then U j else 0
def ez (n k : Nat) : Nat → Int := fun j => if j < n ∧ j < k then 5 + (j : Int) else 0

def zf : Nat → Int := fun _ => 0
theorem zero32 (w : World) : (zeroValue 32).run Yba.prog w = .ok (.agg (uC zf zf).toArray) w := by kernel_rfl

theorem UAt.cell {w : World} {g : Nat} {E O : Nat → Int} (h : UAt w g E O) (j : Nat) : w.cell? ⟨g, j, none⟩ = (uC E O)[j]? := by
  simp [World.cell?, show w.heap[g]? = _ from h]
theorem UAt.free {w : World} {g : Nat} {E O : Nat → Int} (h : UAt w g E O) (j : Nat) : w.frozen? ⟨g, j, none⟩ = false := by
  simp [World.frozen?, show w.heap[g]? = _ from h]
theorem UAt.order {w : World} {g : Nat} {E O : Nat → Int} (h : UAt w g E O) (j : Nat) (hj : j < 11) : w.cell? ⟨g, j * 7 + 6, none⟩ = some (.int .u64 (O j)) := (h.cell _).trans (uC_at E O j hj)
theorem UAt.ebi {w : World} {g : Nat} {E O : Nat → Int} (h : UAt w g E O) (j : Nat) (hj : j < 11) : w.cell? ⟨g, j * 7, none⟩ = some (.int .u8 (E j)) := (h.cell _).trans (uC_at0 E O j hj)
theorem UAt.setOrder {w : World} {g : Nat} {E O : Nat → Int} (h : UAt w g E O) (j : Nat) (hj : j < 11) (v : Int) : UAt (w.setCell ⟨g, j * 7 + 6, none⟩ (.int .u64 v)) g E (upd O j v) := by
  have := heap_setCell_same w g (j * 7 + 6) _ 32 (.int .u64 v) h
  rw [uC_set E O j hj v] at this
  exact this
theorem UAt.setEbi {w : World} {g : Nat} {E O : Nat → Int} (h : UAt w g E O) (j : Nat) (hj : j < 11) (v : Int) : UAt (w.setCell ⟨g, j * 7, none⟩ (.int .u8 v)) g (upd E j v) O := by
  have := heap_setCell_same w g (j * 7) _ 32 (.int .u8 v) h
  rw [uC_set0 E O j hj v] at this
  exact this
theorem UAt.below {w w' : World} {g B : Nat} {E O : Nat → Int} (h : UAt w g E O) (hb : Below B w w') (hB : g < B) : UAt w' g E O := (hb.block g hB).trans h

theorem oz_step (n : Nat) (U : Nat → Int) (k : Nat) (h : k < n) : upd (oz n U k) k (U k) = oz n U (k + 1) := by
  funext j
  unfold upd oz
  by_cases e : j = k
  · subst e; rw [if_pos rfl, if_pos ⟨h, by omega⟩]
  · rw [if_neg e]
    by_cases h1 : j < n ∧ j < k
    · rw [if_pos h1, if_pos ⟨h1.1, by omega⟩]
    · rw [if_neg h1, if_neg (by omega)]
theorem ez_step (n k : Nat) (h : k < n) : upd (ez n k) k (5 + (k : Int)) = ez n (k + 1) := by
  funext j
  unfold upd ez
  by_cases e : j = k
  · subst e; rw [if_pos rfl, if_pos ⟨h, by omega⟩]
  · rw [if_neg e]
    by_cases h1 : j < n ∧ j < k
    · rw [if_pos h1, if_pos ⟨h1.1, by omega⟩]
    · rw [if_neg h1, if_neg (by omega)]
theorem oz_end (n : Nat) (U : Nat → Int) (k : Nat) (h : ¬ (k < 11 ∧ k < n)) (hk : k ≤ 11) : uC (ez n k) (oz n U k) = uC (ez n 11) (oz n U 11) := by
  have e : ∀ j, j < 11 → (j < n ∧ j < k ↔ j < n ∧ j < 11) := fun j hj => by omega
  unfold uC aC
  congr 1
  refine flat_congr fun j hj => ?_
  unfold ez oz
  by_cases h1 : j < n ∧ j < k
  · rw [if_pos h1, if_pos h1, if_pos ((e j hj).1 h1), if_pos ((e j hj).1 h1)]
  · have h2 : ¬ (j < n ∧ j < 11) := fun h => h1 ((e j hj).2 h)
    rw [if_neg h1, if_neg h1, if_neg h2, if_neg h2]

theorem z_start (n : Nat) (U : Nat → Int) : uC zf zf = uC (ez n 0) (oz n U 0) := by
  unfold uC aC
  congr 1
  refine flat_congr fun j _ => ?_
  unfold ez oz zf
  rw [if_neg (by omega), if_neg (by omega)]

theorem uC_one (E O : Nat → Int) : (uC E O).toArray.all (·.oneCell') = true := by kernel_rfl
theorem info32 : (Yba.prog.info? 32).map (·.size) = some 78 := by kernel_rfl

theorem infoU (E O : Nat → Int) : (Yba.prog.info? 32).map (·.size) = some (uC E O).toArray.size := info32
theorem sizeU (E O E' O' : Nat → Int) : (uC E O).toArray.size = (uC E' O').toArray.size := rfl

theorem below_setRow {B g : Nat} {a w : World} (h : Below B a w) (hg : B ≤ g) (cs : Array Value) : Below B a (w.setRow g cs) :=
  h.trans ⟨rfl, rfl, rfl, by simp, fun k hk => setRow_other w g k cs (by omega)⟩

/-- a whole value into the head of a block -/
theorem wpList_store_row {ops : Array Oper} {rest : List Oper} {op : Oper} {a : Act} {w : World} {Q : Exit → Act → World → Prop} (hgd : op.guard = none) (ty : TypeId) (x y : Operand) (ho : op.op = .store ty x y)
    (g : Nat) (t : TypeId) (old cells : Array Value) (hx : a.eval x = .pointer (some ⟨g, 0, none⟩)) (hy : a.eval y = .agg cells)
    (hg : w.heap[g]? = some (.cells old t (0, 0))) (hi : (Yba.prog.info? ty).map (·.size) = some cells.size) (hs : old.size = cells.size) (h1 : cells.all (·.oneCell') = true)
    (h : ∀ w', w' = w.setRow g cells → wpList Yba.prog ops Q rest (a.put op.dst undef) w') : wpList Yba.prog ops Q (op :: rest) a w :=
  wpList_plain hgd fun _ hK => by
    unfold Oper.wp execOp
    simp only [ho, hx, hy, Instr.storeAt, Instr.sureAddr, Sem.run_bind, Sem.run_pure, Result.andThen_ok, run_storeVar_row w g t ty old cells hg hi hs h1]
    exact hK _ _ (h _ rfl)

set_option maxHeartbeats 1000000 in
theorem build_any (a : Option Addr) (n c : Nat) (U : Nat → Int) (w : World) (hn : n ≤ maxLen) (r : RowAt w a n U) :
    Calls Yba.prog 5 #[.slice a n c] w fun e w' => e = .returned (.agg (uC (ez n 11) (oz n U 11)).toArray) ∧ Below w.heap.size w w' := by
  unfold maxLen at hn
  have hz := zero32
  go_enter Yba.func5, Yba.ntmps5
  go_wp2_with fail
  clear hz
  go_loopw [4] (fun i wr => ∃ k : Nat, k ≤ 11 ∧ i = .int .i64 k ∧ UAt wr (w.heap.size + 1) (ez n k) (oz n U k) ∧ wr.heap[w.heap.size]? = some (.cells (uC zf zf).toArray 32 (0, 0)) ∧ Below w.heap.size w wr) (fun i _ => 11 - (intOf i).toNat)
  case atStart =>
    refine ⟨0, by omega, rfl, ?_, heap_alloc2_old _ _ _, ((Below.refl _ _).alloc (Nat.le_refl _) _).alloc (by simp) _⟩
    unfold UAt
    rw [← z_start n U]
    exact heap_alloc2_new _ _ _
  case round =>
    obtain ⟨k, hk, rfl, hu, h0, hb⟩ := hrel
    by_cases hc : k < 11 ∧ k < n
    · obtain ⟨h1, h2⟩ := hc
      obtain ⟨b0, o0, rfl, hb0, hc0⟩ := r (by omega)
      have cu : wr.cell? ⟨b0, o0 + k, none⟩ = some (.int .u64 (U k)) := (hb.cell (by exact hb0)).trans (hc0 k h2)
      have co := hu.order k h1
      have ce := hu.ebi k h1
      have f6 := hu.free (k * 7 + 6)
      have f0 := hu.free (k * 7)
      have hd : decide ((k : Int) < 11) = true := decide_eq_true (by omega)
      have HU : Hid (UAt ((wr.setCell ⟨w.heap.size + 1, k * 7 + 6, none⟩ (.int .u64 (U k))).setCell ⟨w.heap.size + 1, k * 7, none⟩ (.int .u8 (5 + (k : Int)))) (w.heap.size + 1) (ez n (k + 1)) (oz n U (k + 1))) := by
        have := (hu.setOrder k h1 (U k)).setEbi k h1 (5 + (k : Int))
        rw [oz_step n U k h2, ez_step n k h2] at this
        exact this
      clear hu
      go_wp2
      go_roundw
      case rel =>
        refine ⟨k + 1, by omega, by go_num, HU.out, ?_, (hb.setCell (by exact Nat.le_succ _) _).setCell (by exact Nat.le_succ _) _⟩
        rw [heap_setCell_other _ _ _ _ (by simp), heap_setCell_other _ _ _ _ (by simp)]
        exact h0
      case measure => simp [intOf]; omega
    · have HE := oz_end n U k hc hk
      unfold UAt at hu
      rw [HE] at hu
      clear HE
      have hd : decide ((k : Int) < 11) = true → ¬ (k : Int) < (n : Int) := fun h => by simp at h; omega
      have fin : ∀ w', w' = wr.setRow w.heap.size (uC (ez n 11) (oz n U 11)).toArray → w'.heap[w.heap.size]? = some (.cells (uC (ez n 11) (oz n U 11)).toArray 32 (0, 0)) ∧ Below w.heap.size w w' := fun w' hw' => by
        rw [hw']
        exact ⟨setRow_heap wr _ _ _ 32 _ h0, below_setRow hb (Nat.le_refl _) _⟩
      by_cases h11 : k < 11
      · have hk2 : ¬ (k : Int) < (n : Int) := by omega
        have hd1 : decide ((k : Int) < 11) = true := decide_eq_true (by omega)
        clear hd
        go_wp2_with (first
          | (refine wpList_load_row rfl 32 (.tmp 3) rfl (w.heap.size + 1) rfl 32 (uC (ez n 11) (oz n U 11)).toArray (0, 0) _ hu Yba.underlying32 rfl (infoU (ez n 11) (oz n U 11)) ?_)
          | (refine wpList_store_row rfl 32 (.tmp 2) (.tmp 31) rfl w.heap.size 32 (uC zf zf).toArray (uC (ez n 11) (oz n U 11)).toArray rfl rfl h0 (infoU (ez n 11) (oz n U 11)) (sizeU _ _ _ _) (uC_one (ez n 11) (oz n U 11)) ?_; intro w9 hw9; have f9 := fin w9 hw9; clear hw9))
        obtain ⟨f1, f2⟩ := f9
        exact bodyPost_ret (results_cell_row rfl _ _ w.heap.size 32 _ (0, 0) _ rfl f1 Yba.underlying32 rfl (infoU (ez n 11) (oz n U 11))) rfl ⟨rfl, f2⟩
      · have hd1 : decide ((k : Int) < 11) = false := decide_eq_false (by omega)
        clear hd
        go_wp2_with (first
          | (refine wpList_load_row rfl 32 (.tmp 3) rfl (w.heap.size + 1) rfl 32 (uC (ez n 11) (oz n U 11)).toArray (0, 0) _ hu Yba.underlying32 rfl (infoU (ez n 11) (oz n U 11)) ?_)
          | (refine wpList_store_row rfl 32 (.tmp 2) (.tmp 31) rfl w.heap.size 32 (uC zf zf).toArray (uC (ez n 11) (oz n U 11)).toArray rfl rfl h0 (infoU (ez n 11) (oz n U 11)) (sizeU _ _ _ _) (uC_one (ez n 11) (oz n U 11)) ?_; intro w9 hw9; have f9 := fin w9 hw9; clear hw9))
        obtain ⟨f1, f2⟩ := f9
        exact bodyPost_ret (results_cell_row rfl _ _ w.heap.size 32 _ (0, 0) _ rfl f1 Yba.underlying32 rfl (infoU (ez n 11) (oz n U 11))) rfl ⟨rfl, f2⟩
end Go.Proofs.Ybulkcciq
