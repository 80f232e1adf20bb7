/-
  LawS3924AStream: the walk.
-/
import Derived.Test.YbulkccfyDoorModel
namespace Go.Proofs.YbulkccfyDoor
open Go.ChangeShapes Go.WideShapes Go.ChangeAt Go.RowKit
set_option linter.unusedSimpArgs false

theorem below_cells {B b : Nat} {w w' : World} {cs : Array Value} (hb : Below B w w') (hB : b < B) (h : ∀ j, w.cell? ⟨b, j, none⟩ = cs[j]?) : ∀ j, w'.cell? ⟨b, j, none⟩ = cs[j]? :=
  fun j => (hb.cell (by exact hB)).trans (h j)

set_option maxHeartbeats 2000000 in
theorem stream_core (p1 : ByteArray) (l1 : Int) (u1 : ByteArray) (v1 : Int) (m1 p2 : ByteArray) (l2 : Int) (u2 : ByteArray) (v2 : Int) (m2 : ByteArray) (w : World)
    (hl1 : -9223372036854775808 ≤ l1 ∧ l1 ≤ 9223372036854775807) (hl2 : -9223372036854775808 ≤ l2 ∧ l2 ≤ 9223372036854775807)
    (hp1 : p1.size ≤ 1024) (hu1 : u1.size ≤ 1024) (hm1 : m1.size ≤ 1024) (hp2 : p2.size ≤ 1024) (hu2 : u2.size ≤ 1024) (hm2 : m2.size ≤ 1024)
    (htab : Lib.TabIs Ybad.prog w powName .u64 Lib.pow10Tab) :
    Calls Ybad.prog 4 #[.string p1, .int .i64 l1, .string u1, .int .i64 v1, .string m1, .string p2, .int .i64 l2, .string u2, .int .i64 v2, .string m2] w fun e w' => e = .returned (.bool true) ∧ Below w.heap.size w w' := by
  have t1 := txt_len p1.data.toList l1 u1.data.toList v1 m1.data.toList hl1.1 hl1.2 (len_of hp1) (len_of hu1) (len_of hm1)
  have t2 := txt_len p2.data.toList l2 u2.data.toList v2 m2.data.toList hl2.1 hl2.2 (len_of hp2) (len_of hu2) (len_of hm2)
  obtain ⟨W0, hW0⟩ : ∃ W0, W0 = (w.alloc (.cells (fnd p1 l1 u1 v1 m1) 25)).alloc (.cells (fnd p2 l2 u2 v2 m2) 25) := ⟨_, rfl⟩
  have hs0 : W0.heap.size = w.heap.size + 2 := by rw [hW0]; simp
  have b0 : Below w.heap.size w W0 := by rw [hW0]; exact ((Below.refl _ _).alloc (Nat.le_refl _) _).alloc (by simp) _
  have c0 : ∀ j, W0.cell? ⟨w.heap.size + 1, j, none⟩ = (fnd p2 l2 u2 v2 m2)[j]? := fun j => by rw [hW0, World.cell?_alloc_at (hn := by simp)]
  have tb := Lib.tabBelow_of_tabIs htab
  have tb0 : Lib.TabBelow Ybad.prog (w.heap.size + 2) W0 powName .u64 Lib.pow10Tab := fun w' hb => tb w' (b0.trans (hb.mono (by omega)))
  have H0 : Hid (W0 = _) := hW0
  have HS : Hid (W0.heap.size = w.heap.size + 2) := hs0
  clear htab hs0 hW0
  go_enter Ybad.func4, Ybad.ntmps4
  go_wp2_with fail
  have e0 := H0.out
  unfold fnd at e0
  rw [← e0]
  clear e0
  refine (append_any (w.heap.size + 2) p1 l1 u1 v1 m1 (.slice none 0 0) [] W0 hl1.1 hl1.2 hp1 hu1 hm1 (by simp) (own_nil _ _) (by rw [HS.out]; exact Nat.le_refl _) tb0).mono ?_
  rintro e w1 ⟨b1, rfl, ho1, hb1⟩
  rw [List.nil_append] at ho1
  have z1 : w.heap.size + 2 ≤ w1.heap.size := by rw [← HS.out]; exact hb1.size
  have c1 := below_cells hb1 (by omega) c0
  unfold fnd at c1
  clear c0
  go_wp2_with fail
  refine (append_any (w.heap.size + 2) p2 l2 u2 v2 m2 b1 _ w1 hl2.1 hl2.2 hp2 hu2 hm2 (by omega) ho1 z1 (tb0.on hb1)).mono ?_
  rintro e w2 ⟨b2, rfl, ho2, hb2⟩
  have z2 : w.heap.size + 2 ≤ w2.heap.size := Nat.le_trans z1 hb2.size
  have c2 := below_cells hb2 (by omega) c1
  have B2 : Below w.heap.size w w2 := b0.trans ((hb1.trans hb2).mono (by omega))
  clear c1 ho1 hb1 hb2 tb0 z1
  go_wp2_with fail
  refine (model_any p1 l1 u1 v1 m1 w2 hl1.1 hl1.2 hp1 hu1 hm1).mono ?_
  rintro e w3 ⟨v3, rfl, ho3, hb3⟩
  go_wp2_with fail
  refine (model_any p2 l2 u2 v2 m2 w3 hl2.1 hl2.2 hp2 hu2 hm2).mono ?_
  rintro e w4 ⟨v4, rfl, ho4, hb4⟩
  obtain ⟨g, cap, rfl, hgB, _, hc4⟩ := own_shape ho4 t2.1
  have HC : Hid (∀ j (hj : j < _), _) := add_cells hc4
  have ho34 := own_below ho3 hb4 (Nat.le_refl _)
  clear hc4 ho3
  generalize hT1 : txt p1.data.toList l1 u1.data.toList v1 m1.data.toList = T1 at *
  generalize hT2 : txt p2.data.toList l2 u2.data.toList v2 m2.data.toList = T2 at *
  have H2 : Hid (_ = T2) := hT2
  clear hT1 hT2
  go_wp2_with (at_builtin; refine app_row w2.heap.size v3 T1 T2 ⟨g, 0, none⟩ cap (.tmp 86) (.tmp 92) rfl rfl rfl ho34 rfl HC.out (by omega) (Nat.le_trans hb3.size hb4.size) ?_; intro v5 w5 ho5 hg5; have b45 : Below w2.heap.size w2 w5 := (hb3.trans (hb4.mono hb3.size)).grown hg5 (Nat.le_trans hb3.size hb4.size) (fun k hk => (World.ownsRow.lt ho34 k hk).1); have ho25 := own_below ho2 b45 (Nat.le_refl _); have s1 := str_of_own ho25 (by rw [List.length_append]; omega); have s2 := str_of_own ho5 (by rw [List.length_append]; omega); have c5 := below_cells b45 (by omega) c2)
  have B5 : Below w.heap.size w w5 := B2.trans (b45.mono (by omega))
  clear s1 s2 ho25 ho5 hg5 ho34 HC ho4 hb3 hb4 hgB ho2 c2 c5 b45
  refine (string_any p2 l2 u2 v2 m2 w5 hl2.1 hl2.2 hp2 hu2 hm2 (tb.on B5).here).mono ?_
  rintro e w6 ⟨rfl, hb6⟩
  rw [H2.out]
  have B6 : Below w.heap.size w w6 := B5.trans (hb6.mono B5.size)
  clear hb6 B5
  go_wp2_with fail
  refine (model_any p2 l2 u2 v2 m2 w6 hl2.1 hl2.2 hp2 hu2 hm2).mono ?_
  rintro e w7 ⟨v7, rfl, ho7, hb7⟩
  rw [H2.out] at ho7
  have s7 := str_of_own ho7 t2.1
  have B7 : Below w.heap.size w w7 := B6.trans (hb7.mono B6.size)
  clear ho7 hb7
  go_wp2
  go_ret
  exact ⟨rfl, B7⟩

set_option maxHeartbeats 2000000 in
/-- one of the six texts is too long: true at once -/
theorem stream_long (p1 : ByteArray) (l1 : Int) (u1 : ByteArray) (v1 : Int) (m1 p2 : ByteArray) (l2 : Int) (u2 : ByteArray) (v2 : Int) (m2 : ByteArray) (w : World)
    (h : ¬ (p1.size ≤ 1024 ∧ u1.size ≤ 1024 ∧ m1.size ≤ 1024 ∧ p2.size ≤ 1024 ∧ u2.size ≤ 1024 ∧ m2.size ≤ 1024)) :
    Calls Ybad.prog 4 #[.string p1, .int .i64 l1, .string u1, .int .i64 v1, .string m1, .string p2, .int .i64 l2, .string u2, .int .i64 v2, .string m2] w fun e w' => e = .returned (.bool true) ∧ Below w.heap.size w w' := by
  go_enter Ybad.func4, Ybad.ntmps4
  go_wp2_with fail
  all_goals first
    | (go_ret; exact ⟨rfl, Below.refl _ _⟩)
    | (exfalso; omega)
end Go.Proofs.YbulkccfyDoor
