/-
  LawS3929AFirstFree: the walk.
-/
import Derived.Test.YbulkcciqWalk2
namespace Go.Proofs.Ybulkcciq
open Go.ChangeShapes Go.WideShapes Go.ChangeAt Go.RowKit

theorem first_zero (O : Nat → Int) (m : Nat) : (∃ k, k < m ∧ O k = 0 ∧ ∀ j, j < k → O j ≠ 0) ∨ ∀ j, j < m → O j ≠ 0 := by
  induction m with
  | zero => exact .inr fun j h => absurd h (by omega)
  | succ m ih =>
    rcases ih with ⟨k, hk, h1, h2⟩ | h
    · exact .inl ⟨k, by omega, h1, h2⟩
    · by_cases e : O m = 0
      · exact .inl ⟨m, by omega, e, h⟩
      · refine .inr fun j hj => ?_
        by_cases e2 : j = m
        · subst e2; exact e
        · exact h j (by omega)

theorem made_at {w1 w2 : World} {E O : Nat → Int} (h : w2 = (w1.alloc (.cells (uC zf zf).toArray 32)).setRow w1.heap.size (uC E O).toArray) : UAt w2 w1.heap.size E O := by
  rw [h]
  exact setRow_heap _ _ _ _ 32 _ (heap_alloc_new w1 _)
theorem made_below {w w1 w2 : World} {C D : Array Value} (hb : Below w.heap.size w w1) (h : w2 = (w1.alloc (.cells C 32)).setRow w1.heap.size D) : Below w.heap.size w w2 := by
  rw [h]
  exact below_setRow (hb.alloc hb.size _) hb.size _
theorem made_lt {w1 w2 : World} {C D : Array Value} (h : w2 = (w1.alloc (.cells C 32)).setRow w1.heap.size D) : w1.heap.size < w2.heap.size := by
  rw [h]; simp


set_option maxHeartbeats 2000000 in
theorem first_found (a : Option Addr) (n c : Nat) (U : Nat → Int) (w : World) (hn : n ≤ maxLen) (r : RowAt w a n U) (k : Nat) (hk : k < 11) (hzk : oz n U 11 k = 0) (hne : ∀ j, j < k → oz n U 11 j ≠ 0) :
    Calls Yba.prog 3 #[.slice a n c] w fun e w' => e = .returned (.bool true) ∧ Below w.heap.size w w' := by
  have hm := hn
  unfold maxLen at hn
  have hz := zero32
  go_enter Yba.func3, Yba.ntmps3
  go_wp2_with fail
  refine (build_any a n c U w hm r).mono ?_
  rintro e w1 ⟨rfl, hb1⟩
  go_wp2_with (first
    | (refine wpList_store_row rfl 32 (.tmp 3) (.tmp 12) rfl w1.heap.size 32 (uC zf zf).toArray (uC (ez n 11) (oz n U 11)).toArray rfl rfl (heap_alloc_new _ _) (infoU _ _) (sizeU _ _ _ _) (uC_one _ _) ?_; intro w2 hw2; have hu2 := made_at hw2; have hb2 := made_below hb1 hw2; have hg2 := made_lt hw2; clear hw2))
  clear hz
  have hgw : w.heap.size ≤ w1.heap.size := hb1.size
  have HN : Hid (∀ j, j < k → oz n U 11 j ≠ 0) := hne
  have HZ : Hid (oz n U 11 k = 0) := hzk
  clear hne hzk
  go_loopw [4, 5, 6] (fun x y i wr => ∃ j : Nat, j ≤ k ∧ x = .int .i64 0 ∧ y = .bool false ∧ i = .int .i64 j ∧ wr = w2) (fun _ _ i _ => 11 - (intOf i).toNat)
  case atStart => exact ⟨0, Nat.zero_le _, rfl, rfl, rfl, rfl⟩
  case round =>
    obtain ⟨j, hj, rfl, rfl, rfl, rfl⟩ := hrel
    have co := hu2.order j (by omega)
    by_cases e : j = k
    · subst e
      rw [HZ.out] at co
      go_wp2_with fail
      refine (low_found w1.heap.size _ _ j wr hk HZ.out HN.out hu2).mono ?_
      rintro e w3 ⟨rfl, hb23⟩
      have hu3 := hu2.below hb23 hg2
      have hb3 : Below w.heap.size w w3 := hb2.trans (hb23.mono hb2.size)
      go_wp2
      go_loopw [9] (fun i wr => ∃ t : Nat, t ≤ 11 ∧ i = .int .i64 t ∧ wr = w3) (fun i _ => 11 - (intOf i).toNat)
      case atStart => exact ⟨0, Nat.zero_le _, rfl, rfl⟩
      case round =>
        obtain ⟨t, ht, rfl, rfl⟩ := hrel
        by_cases h11 : t < 11
        · have co := hu3.order t h11
          by_cases htn : t < n
          · obtain ⟨b0, o0, rfl, hb0, hc0⟩ := r (by omega)
            have cu : wr.cell? ⟨b0, o0 + t, none⟩ = some (.int .u64 (U t)) := (hb3.cell (by exact hb0)).trans (hc0 t htn)
            rw [show oz n U 11 t = U t from if_pos ⟨htn, h11⟩] at co
            go_wp2
            go_roundw
            case rel => exact ⟨t + 1, by omega, by go_num, trivial⟩
            case measure => simp [intOf]; omega
          · rw [show oz n U 11 t = 0 from if_neg (by omega)] at co
            go_wp2
            go_roundw
            case rel => exact ⟨t + 1, by omega, by go_num, trivial⟩
            case measure => simp [intOf]; omega
        · go_wp2
          go_ret
          exact ⟨rfl, hb3⟩
    · have hob : (oz n U 11 j == 0) = false := beq_eq_false_iff_ne.2 (HN.out j (by omega))
      go_wp2
      go_roundw
      case rel => exact ⟨j + 1, by omega, rfl, rfl, by go_num, trivial⟩
      case measure => simp [intOf]; omega

set_option maxHeartbeats 2000000 in
theorem first_none (a : Option Addr) (n c : Nat) (U : Nat → Int) (w : World) (hn : n ≤ maxLen) (r : RowAt w a n U) (hne : ∀ j, j < 11 → oz n U 11 j ≠ 0) :
    Calls Yba.prog 3 #[.slice a n c] w fun e w' => e = .returned (.bool true) ∧ Below w.heap.size w w' := by
  have hm := hn
  unfold maxLen at hn
  have hz := zero32
  go_enter Yba.func3, Yba.ntmps3
  go_wp2_with fail
  refine (build_any a n c U w hm r).mono ?_
  rintro e w1 ⟨rfl, hb1⟩
  go_wp2_with (first
    | (refine wpList_store_row rfl 32 (.tmp 3) (.tmp 12) rfl w1.heap.size 32 (uC zf zf).toArray (uC (ez n 11) (oz n U 11)).toArray rfl rfl (heap_alloc_new _ _) (infoU _ _) (sizeU _ _ _ _) (uC_one _ _) ?_; intro w2 hw2; have hu2 := made_at hw2; have hb2 := made_below hb1 hw2; have hg2 := made_lt hw2; clear hw2))
  clear hz
  have hgw : w.heap.size ≤ w1.heap.size := hb1.size
  have HN : Hid (∀ j, j < 11 → oz n U 11 j ≠ 0) := hne
  clear hne
  go_loopw [4, 5, 6] (fun x y i wr => ∃ j : Nat, j ≤ 11 ∧ x = .int .i64 0 ∧ y = .bool false ∧ i = .int .i64 j ∧ wr = w2) (fun _ _ i _ => 11 - (intOf i).toNat)
  case atStart => exact ⟨0, Nat.zero_le _, rfl, rfl, rfl, rfl⟩
  case round =>
    obtain ⟨j, hj, rfl, rfl, rfl, rfl⟩ := hrel
    by_cases hj11 : j < 11
    · have co := hu2.order j hj11
      have hob : (oz n U 11 j == 0) = false := beq_eq_false_iff_ne.2 (HN.out j hj11)
      go_wp2
      go_roundw
      case rel => exact ⟨j + 1, by omega, rfl, rfl, by go_num, trivial⟩
      case measure => simp [intOf]; omega
    · go_wp2_with fail
      refine (low_none w1.heap.size _ _ wr HN.out hu2).mono ?_
      rintro e w3 ⟨rfl, hb23⟩
      have hu3 := hu2.below hb23 hg2
      have hb3 : Below w.heap.size w w3 := hb2.trans (hb23.mono hb2.size)
      go_wp2
      go_loopw [9] (fun i wr => ∃ t : Nat, t ≤ 11 ∧ i = .int .i64 t ∧ wr = w3) (fun i _ => 11 - (intOf i).toNat)
      case atStart => exact ⟨0, Nat.zero_le _, rfl, rfl⟩
      case round =>
        obtain ⟨t, ht, rfl, rfl⟩ := hrel
        by_cases h11 : t < 11
        · have co := hu3.order t h11
          by_cases htn : t < n
          · obtain ⟨b0, o0, rfl, hb0, hc0⟩ := r (by omega)
            have cu : wr.cell? ⟨b0, o0 + t, none⟩ = some (.int .u64 (U t)) := (hb3.cell (by exact hb0)).trans (hc0 t htn)
            rw [show oz n U 11 t = U t from if_pos ⟨htn, h11⟩] at co
            go_wp2
            go_roundw
            case rel => exact ⟨t + 1, by omega, by go_num, trivial⟩
            case measure => simp [intOf]; omega
          · rw [show oz n U 11 t = 0 from if_neg (by omega)] at co
            go_wp2
            go_roundw
            case rel => exact ⟨t + 1, by omega, by go_num, trivial⟩
            case measure => simp [intOf]; omega
        · go_wp2
          go_ret
          exact ⟨rfl, hb3⟩

theorem first_core (a : Option Addr) (n c : Nat) (U : Nat → Int) (w : World) (hn : n ≤ maxLen) (r : RowAt w a n U) :
    Calls Yba.prog 3 #[.slice a n c] w fun e w' => e = .returned (.bool true) ∧ Below w.heap.size w w' := by
  rcases first_zero (oz n U 11) 11 with ⟨k, hk, hz, hne⟩ | hne
  · exact first_found a n c U w hn r k hk hz hne
  · exact first_none a n c U w hn r hne
end Go.Proofs.Ybulkcciq
