/-
  ueEBIs.lowestFree.
-/
import Derived.Test.YbulkcciqWalk1
namespace Go.Proofs.Ybulkcciq
open Go.ChangeShapes Go.WideShapes Go.ChangeAt Go.RowKit

theorem info30 (E O : Nat → Int) : (Yba.prog.info? 30).map (·.size) = some (aC E O).length := by kernel_rfl
theorem UAt.range {w : World} {g : Nat} {E O : Nat → Int} (h : UAt w g E O) : w.rangeAt g 0 (aC E O) := by
  intro j v hv
  rw [Nat.zero_add, h.cell j, ← hv]
  unfold uC
  have hj : j < (aC E O).length := (List.getElem?_eq_some_iff.1 hv).1
  rw [List.getElem?_append_left hj]

/-- the first slot whose order is 0 is k -/
theorem low_found (g : Nat) (E O : Nat → Int) (k : Nat) (w : World) (hk : k < 11) (hz : O k = 0) (hne : ∀ j, j < k → O j ≠ 0) (h : UAt w g E O) :
    Calls Yba.prog 6 #[.pointer (some ⟨g, 0, none⟩)] w fun e w' => e = .returned (.tuple #[.int .i64 (k : Int), .bool true]) ∧ Below w.heap.size w w' := by
  have hr := h.range
  have HR : Hid (w.rangeAt g 0 (aC E O)) := hr
  have HN : Hid (∀ j, j < k → O j ≠ 0) := hne
  clear hr h hne
  go_enter Yba.func6, Yba.ntmps6
  go_wp2_with (first
    | (refine wpList_load_mid rfl 30 (.tmp 8) rfl g 0 rfl (aC E O) _ HR.out Yba.underlying30 rfl (info30 E O) ?_))
  go_loopw [10] (fun i wr => ∃ j : Nat, j ≤ k ∧ i = .int .i64 j ∧ Below w.heap.size w wr) (fun i _ => 11 - (intOf i).toNat)
  case atStart => exact ⟨0, Nat.zero_le _, rfl, Below.refl _ _⟩
  case round =>
    obtain ⟨j, hj, rfl, hb⟩ := hrel
    have hix := run_index E O j (by omega)
    have hbs := hb.size
    by_cases e : j = k
    · subst e
      rw [hz] at hix
      go_wp2_with (first | (go_at_call 7; refine (held_any _ _ _).mono ?_; rintro e w' ⟨rfl, hb2⟩))
      go_ret2
      exact ⟨rfl, (hb.alloc hbs _).trans (hb2.mono (by simp; omega))⟩
    · have hjk : j < k := by omega
      have hob : (O j != 0) = true := by rw [bne_iff_ne]; exact HN.out j hjk
      go_wp2_with (first | (go_at_call 7; refine (held_any _ _ _).mono ?_; rintro e w' ⟨rfl, hb2⟩))
      go_roundw
      case rel => exact ⟨j + 1, by omega, by go_num, (hb.alloc hbs _).trans (hb2.mono (by simp; omega))⟩
      case measure => simp [intOf]; omega

/-- every slot is held -/
theorem low_none (g : Nat) (E O : Nat → Int) (w : World) (hne : ∀ j, j < 11 → O j ≠ 0) (h : UAt w g E O) :
    Calls Yba.prog 6 #[.pointer (some ⟨g, 0, none⟩)] w fun e w' => e = .returned (.tuple #[.int .i64 0, .bool false]) ∧ Below w.heap.size w w' := by
  have hr := h.range
  have HR : Hid (w.rangeAt g 0 (aC E O)) := hr
  have HN : Hid (∀ j, j < 11 → O j ≠ 0) := hne
  clear hr h hne
  go_enter Yba.func6, Yba.ntmps6
  go_wp2_with (first
    | (refine wpList_load_mid rfl 30 (.tmp 8) rfl g 0 rfl (aC E O) _ HR.out Yba.underlying30 rfl (info30 E O) ?_))
  go_loopw [10] (fun i wr => ∃ j : Nat, j ≤ 11 ∧ i = .int .i64 j ∧ Below w.heap.size w wr) (fun i _ => 11 - (intOf i).toNat)
  case atStart => exact ⟨0, Nat.zero_le _, rfl, Below.refl _ _⟩
  case round =>
    obtain ⟨j, hj, rfl, hb⟩ := hrel
    have hbs := hb.size
    by_cases hjk : j < 11
    · have hix := run_index E O j hjk
      have hob : (O j != 0) = true := by rw [bne_iff_ne]; exact HN.out j hjk
      go_wp2_with (first | (go_at_call 7; refine (held_any _ _ _).mono ?_; rintro e w' ⟨rfl, hb2⟩))
      go_roundw
      case rel => exact ⟨j + 1, by omega, by go_num, (hb.alloc hbs _).trans (hb2.mono (by simp; omega))⟩
      case measure => simp [intOf]; omega
    · go_wp2
      go_ret2
      exact ⟨rfl, hb⟩
end Go.Proofs.Ybulkcciq
