/-
  LawS3929ADrain: the walk.
-/
import Derived.Test.YbulkcciqFirst
namespace Go.Proofs.Ybulkcciq
open Go.ChangeShapes Go.WideShapes Go.ChangeAt Go.RowKit

/-- the free slots among the first k, in ascending order -/
def zs (O : Nat → Int) (k : Nat) : List Nat := (List.range k).filter fun j => O j == 0

theorem zs_hit (O : Nat → Int) (k : Nat) (h : O k = 0) : zs O (k + 1) = zs O k ++ [k] := by
  unfold zs
  rw [List.range_succ, List.filter_append]
  simp [h]
theorem zs_miss (O : Nat → Int) (k : Nat) (h : O k ≠ 0) : zs O (k + 1) = zs O k := by
  unfold zs
  rw [List.range_succ, List.filter_append]
  simp [h]
theorem zs_len (O : Nat → Int) (k : Nat) : (zs O k).length ≤ k := by
  have := List.length_filter_le (fun j => O j == 0) (List.range k)
  simpa [zs] using this
theorem zs_mem (O : Nat → Int) (k j : Nat) : j ∈ zs O k ↔ j < k ∧ O j = 0 := by simp [zs]
theorem zs_sorted (O : Nat → Int) (k : Nat) : (zs O k).Pairwise (· < ·) := List.Pairwise.filter _ List.pairwise_lt_range

/-- the k-th free slot is the least of those that are left -/
theorem drop_first {F : List Nat} (hs : F.Pairwise (· < ·)) (k : Nat) (h : k < F.length) :
    F[k] ∈ F.drop k ∧ (∀ j ∈ F.drop k, F[k] ≤ j) ∧ ∀ j, j ∈ F.drop (k + 1) ↔ j ∈ F.drop k ∧ j ≠ F[k] := by
  have e := List.drop_eq_getElem_cons h
  have hp : (F.drop k).Pairwise (· < ·) := hs.drop
  rw [e] at hp
  have hlt := (List.pairwise_cons.1 hp).1
  rw [e]
  refine ⟨List.mem_cons_self, fun j hj => ?_, fun j => ⟨fun hj => ⟨List.mem_cons_of_mem _ hj, ?_⟩, fun hj => ?_⟩⟩
  · rcases List.mem_cons.1 hj with rfl | hj
    · exact Nat.le_refl _
    · exact Nat.le_of_lt (hlt j hj)
  · have := hlt j hj; omega
  · rcases List.mem_cons.1 hj.1 with e | h
    · exact absurd e hj.2
    · exact h

/-- the slice of the free slots -/
def FreeAt (wr : World) (a : Option Addr) (B : Nat) (F : List Nat) : Prop :=
  0 < F.length → ∃ f, a = some ⟨f, 0, none⟩ ∧ B ≤ f ∧ f < wr.heap.size ∧ ∀ j (hj : j < F.length), wr.cell? ⟨f, j, none⟩ = some (.int .i64 (F[j] : Int))

theorem free_of_own {wr : World} {B : Nat} {v : Value} {F : List Nat} (h : wr.ownsRow B 3 1 v F.length (F.map fun t : Nat => Value.int .i64 (t : Int))) :
    ∃ a cap, v = .slice a F.length cap ∧ FreeAt wr a B F := by
  rcases h.2 with ⟨rfl, h0⟩ | ⟨g, cap, cur, rfl, hb, hg, _⟩
  · exact ⟨none, 0, by rw [h0], fun hp => absurd hp (by omega)⟩
  · refine ⟨_, cap, rfl, fun _ => ⟨g, rfl, hb, (Array.getElem?_eq_some_iff.1 hg).1, fun j hj => ?_⟩⟩
    rw [World.ownsRow.cellAt h j (by omega)]
    simp [hj]

theorem FreeAt.below {w w' : World} {a : Option Addr} {B : Nat} {F : List Nat} (h : FreeAt w a B F) (hb : Below w.heap.size w w') : FreeAt w' a B F := by
  intro hp
  obtain ⟨f, e, h1, h2, h3⟩ := h hp
  exact ⟨f, e, h1, Nat.lt_of_lt_of_le h2 hb.size, fun j hj => (hb.cell (by exact h2)).trans (h3 j hj)⟩

theorem FreeAt.store {w : World} {a : Option Addr} {B g o : Nat} {F : List Nat} (h : FreeAt w a B F) (hg : g < B) (u : Value) : FreeAt (w.setCell ⟨g, o, none⟩ u) a B F := by
  intro hp
  obtain ⟨f, e, h1, h2, h3⟩ := h hp
  refine ⟨f, e, h1, by simpa using h2, fun j hj => ?_⟩
  rw [World.cell?_setCell_other _ _ _ _ (by intro e2; have := congrArg Addr.block e2; simp at this; omega)]
  exact h3 j hj

theorem Yba.info3 : (Yba.prog.info? 3).map (fun i => (i.zero, i.size, i.bytes)) = some (some (.int .i64 0), 1, 8) := by kernel_rfl

theorem UAt.grown {w w' : World} {g : Nat} {E O : Nat → Int} {row : Option Nat} (h : UAt w g E O) (hg : w.grownBy w' row) (hr : ∀ k, row = some k → g < k) : UAt w' g E O := by
  have hlt : g < w.heap.size := (Array.getElem?_eq_some_iff.1 (show w.heap[g]? = _ from h)).1
  exact (hg.block g hlt (fun e => by have := hr g e.symm; omega)).trans h

theorem one_new (wr : World) (v : Value) : ∀ j u, [v][j]? = some u → (wr.alloc (Obj.cells #[v] 3)).cell? ((⟨wr.heap.size, 0, none⟩ : Addr).add j) = some u := by
  intro j u hj
  match j, hj with
  | 0, hj =>
    simp at hj
    subst hj
    rw [Addr.add_lit, World.cell?_alloc_at (hn := rfl)]
    rfl

set_option maxHeartbeats 2000000 in
theorem drain_core (a : Option Addr) (n c : Nat) (U : Nat → Int) (w : World) (hn : n ≤ maxLen) (r : RowAt w a n U) :
    Calls Yba.prog 4 #[.slice a n c] w fun e w' => e = .returned (.bool true) ∧ Below w.heap.size w w' := by
  have hm := hn
  unfold maxLen at hn
  have hz := zero32
  obtain ⟨i0, hi, hz0, hz1, hz2⟩ := info_parts Yba.info3
  go_enter Yba.func4, Yba.ntmps4
  go_wp2_with fail
  refine (build_any a n c U w hm r).mono ?_
  rintro e w1 ⟨rfl, hb1⟩
  generalize ez n 11 = E at *
  generalize oz n U 11 = O at *
  go_wp2_with (first
    | (refine wpList_store_row rfl 32 (.tmp 3) (.tmp 10) rfl w1.heap.size 32 (uC zf zf).toArray (uC E O).toArray rfl rfl (heap_alloc_new _ _) (infoU _ _) (sizeU _ _ _ _) (uC_one _ _) ?_; intro w2 hw2; have hu2 := made_at hw2; have hb2 := made_below hb1 hw2; have hg2 := made_lt hw2; clear hw2))
  have hgw : w.heap.size ≤ w1.heap.size := hb1.size
  clear hz r hb1
  go_loopw [4, 5] (fun v i wr => ∃ j : Nat, j ≤ 11 ∧ i = .int .i64 j ∧ wr.ownsRow (w1.heap.size + 1) 3 1 v (zs O j).length ((zs O j).map fun t : Nat => Value.int .i64 (t : Int)) ∧ UAt wr w1.heap.size E O ∧ w1.heap.size < wr.heap.size ∧ Below w.heap.size w wr) (fun _ i _ => 11 - (intOf i).toNat)
  case atStart => exact ⟨0, Nat.zero_le _, rfl, World.ownsRow_nil _ _ _ _, hu2, hg2, hb2⟩
  case round =>
    obtain ⟨j, hj, rfl, hown, hu, hg, hb⟩ := hrel
    by_cases hj11 : j < 11
    · have co := hu.order j hj11
      have hl := zs_len O j
      by_cases hoj : O j = 0
      · rw [hoj] at co
        have HZ : Hid (zs O (j + 1) = zs O j ++ [j]) := zs_hit O j hoj
        clear hoj
        go_wp2_with (at_builtin; refine wpList_append_own _ rfl (.tmp 21) (.tmp 23) 37 rfl (w1.heap.size + 1) 3 i0 (.int .i64 0) 1 8 Yba.underlying37 hi hz0 hz1 hz2 rfl (by decide) _ _ _ rfl (hown.alloc _) ⟨wr.heap.size, 0, none⟩ 1 1 [Value.int .i64 (j : Int)] rfl rfl (one_new _ _) (by intro u hu; simp at hu; subst hu; rfl) (by unfold maxLen; omega) (by omega) (by simp; omega) ?_; intro v3 w3 hown3 hg3 _)
        go_roundw
        case rel =>
          refine ⟨j + 1, by omega, by go_num, ?_, ?_, ?_, ?_⟩
          · rw [HZ.out]; simpa using hown3
          · refine UAt.grown (hu.below ((Below.refl _ wr).alloc (Nat.le_refl _) _) hg) hg3 (fun k hk => ?_)
            have := (World.ownsRow.lt hown k hk).1
            omega
          · have := hg3.size; simp at this; omega
          · refine (hb.alloc hb.size _).grown hg3 (by simp; have := hb.size; omega) (fun k hk => ?_)
            have := (World.ownsRow.lt hown k hk).1
            omega
        case measure => simp [intOf]; omega
      · have HZ : Hid (zs O (j + 1) = zs O j) := zs_miss O j hoj
        have hob : (O j == 0) = false := beq_eq_false_iff_ne.2 hoj
        clear hoj
        go_wp2
        go_roundw
        case rel => exact ⟨j + 1, by omega, by go_num, by rw [HZ.out]; exact hown, hu, hg, hb⟩
        case measure => simp [intOf]; omega
    · obtain ⟨fa, cap, rfl, hfree⟩ := free_of_own hown
      have hl := zs_len O j
      have HS : Hid ((zs O j).Pairwise (· < ·)) := zs_sorted O j
      have HM : Hid (∀ t, t < 11 → (O t = 0 ↔ t ∈ (zs O j).drop 0)) := fun t ht => by rw [List.drop_zero, zs_mem]; exact ⟨fun h => ⟨by omega, h⟩, fun h => h.2⟩
      have HB : Hid (∀ t ∈ zs O j, t < 11) := fun t ht => by have := ((zs_mem O j t).1 ht).1; omega
      clear hown hi hz0 hz1 hz2 hu2 hb2 hg2
      generalize zs O j = F at *
      go_wp2
      go_loopw [6] (fun i wx => ∃ (k : Nat) (O' : Nat → Int), k ≤ F.length + 1 ∧ i = .int .i64 k ∧ UAt wx w1.heap.size E O' ∧ (∀ t, t < 11 → (O' t = 0 ↔ t ∈ F.drop k)) ∧ FreeAt wx fa (w1.heap.size + 1) F ∧ w1.heap.size < wx.heap.size ∧ Below w.heap.size w wx) (fun i _ => F.length + 1 - (intOf i).toNat)
      case atStart => exact ⟨0, O, Nat.zero_le _, rfl, hu, HM.out, hfree, hg, hb⟩
      case round =>
        clear HM hfree hu hb hg
        obtain ⟨k, O', hk, rfl, hu, hm', hfree, hg, hb⟩ := hrel
        by_cases hkl : k < F.length
        · obtain ⟨d1, d2, d3⟩ := drop_first HS.out k hkl
          obtain ⟨f, rfl, hf1, hf2, hf3⟩ := hfree (by omega)
          have hf11 : F[k] < 11 := HB.out _ (List.getElem_mem hkl)
          have cf := hf3 k hkl
          have HM : Hid (∀ t, t < 11 → (upd O' F[k] 1 t = 0 ↔ t ∈ F.drop (k + 1))) := fun t ht => by
            rw [d3 t, ← hm' t ht]
            unfold upd
            by_cases e : t = F[k]
            · rw [if_pos e]; exact ⟨fun h => absurd h (by decide), fun h => absurd e h.2⟩
            · rw [if_neg e]; exact ⟨fun h => ⟨h, e⟩, fun h => h.1⟩
          have hz' : O' F[k] = 0 := (hm' _ hf11).2 d1
          have hne' : ∀ t, t < F[k] → O' t ≠ 0 := fun t ht h => by
            have := d2 t ((hm' t (by omega)).1 h)
            omega
          have HL : Hid (FreeAt wr (some ⟨f, 0, none⟩) (w1.heap.size + 1) F) := hfree
          clear hm' d1 d2 d3 hf3 hfree
          generalize F[k] = fk at *
          go_wp2_with fail
          refine (low_found w1.heap.size E O' fk wr hf11 hz' hne' hu).mono ?_
          rintro e w3 ⟨rfl, hb3⟩
          have hu3 := hu.below hb3 hg
          have co := hu3.order fk hf11
          have fz := hu3.free (fk * 7 + 6)
          have c3 : w3.cell? ⟨f, k, none⟩ = some (.int .i64 (fk : Int)) := (hb3.cell (by exact hf2)).trans cf
          have HU : Hid (UAt (w3.setCell ⟨w1.heap.size, fk * 7 + 6, none⟩ (.int .u64 1)) w1.heap.size E (upd O' fk 1)) := hu3.setOrder fk hf11 1
          have HF : Hid (FreeAt w3 (some ⟨f, 0, none⟩) (w1.heap.size + 1) F) := FreeAt.below HL.out hb3
          clear cf hu hu3
          go_wp2
          go_roundw
          case rel =>
            refine ⟨k + 1, upd O' fk 1, by omega, by go_num, HU.out, HM.out, FreeAt.store HF.out (Nat.lt_succ_self _) _, ?_, ?_⟩
            · have := hb3.size; simp; omega
            · exact (hb.trans (hb3.mono hb.size)).setCell hgw _
          case measure => simp [intOf]; omega
        · by_cases hkl2 : k = F.length
          · have hne' : ∀ t, t < 11 → O' t ≠ 0 := fun t ht h => by
              have := (hm' t ht).1 h
              rw [List.drop_eq_nil_of_le (by omega)] at this
              cases this
            have HM : Hid (∀ t, t < 11 → (O' t = 0 ↔ t ∈ F.drop (k + 1))) := fun t ht => by
              rw [hm' t ht, List.drop_eq_nil_of_le (show F.length ≤ k by omega), List.drop_eq_nil_of_le (show F.length ≤ k + 1 by omega)]
            clear hm'
            have HK : Hid (k = F.length) := hkl2
            have hkle : (k : Int) ≤ (F.length : Int) := by omega
            clear hkl2
            go_wp2_with fail
            refine (low_none w1.heap.size E O' wr hne' hu).mono ?_
            rintro e w3 ⟨rfl, hb3⟩
            have hu3 := hu.below hb3 hg
            have HF : Hid (FreeAt w3 fa (w1.heap.size + 1) F) := FreeAt.below hfree hb3
            clear hfree hu
            go_wp2
            go_roundw
            case rel =>
              exact ⟨k + 1, O', by omega, by go_num, hu3, HM.out, HF.out, Nat.lt_of_lt_of_le hg hb3.size, hb.trans (hb3.mono hb.size)⟩
            case measure => simp [intOf]; omega
          · clear hm' hfree
            go_wp2
            go_ret
            exact ⟨rfl, hb⟩
end Go.Proofs.Ybulkcciq
