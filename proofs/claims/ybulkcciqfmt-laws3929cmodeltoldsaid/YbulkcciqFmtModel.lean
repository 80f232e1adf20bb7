/-
  LawS3929CModel: the walk.
-/
import Derived.Test.YbulkcciqFmtWalk2
namespace Go.Proofs.YbulkcciqFmt
open Go.ChangeShapes Go.WideShapes Go.ChangeAt Go.RowKit Go.Extern.Stop Go.Stop Go.Extern

/-- what the law wants after k octets of n -/
def wt (n : Nat) (Z : Nat → Int) (k : Nat) : Bool := decide (0 < n) && (List.range k).all fun j => okB (Z j)
theorem wt_ok {n : Nat} {Z : Nat → Int} {k : Nat} (h : okB (Z k) = true) : wt n Z (k + 1) = wt n Z k := by
  simp [wt, List.range_succ, h]
theorem wt_bad {n : Nat} {Z : Nat → Int} {k : Nat} (h : okB (Z k) = false) : wt n Z (k + 1) = false := by
  simp [wt, List.range_succ, h]
theorem wt_true {n : Nat} {Z : Nat → Int} (h : wt n Z n = true) : 0 < n ∧ ∀ j, j < n → okB (Z j) = true := by
  simp [wt] at h; exact h
theorem wt_false {n : Nat} {Z : Nat → Int} (h : wt n Z n = false) : n = 0 ∨ ∃ i, i < n ∧ okB (Z i) = false := by
  by_cases h0 : n = 0
  · exact .inl h0
  · refine .inr ?_
    rcases first_bad Z n with ⟨i, hi, h1, _⟩ | hall
    · exact ⟨i, hi, h1⟩
    · have : wt n Z n = true := by simp [wt]; exact ⟨by omega, hall⟩
      rw [this] at h; cases h

theorem Ybaf.info5 : (Ybaf.prog.info? 5).map (fun i => (i.zero, i.size, i.bytes)) = some (some (.int .u8 0), 1, 1) := by kernel_rfl
theorem Ybaf.size5 : (Ybaf.prog.info? 5).map (·.size) = some 1 := by kernel_rfl

/-- the bytes as cells -/
def zcells (n : Nat) (Z : Nat → Int) : List Value := (List.range n).map fun j => Value.int .u8 (Z j)
theorem zcells_len (n : Nat) (Z : Nat → Int) : (zcells n Z).length = n := by simp [zcells]
theorem zcells_at (n : Nat) (Z : Nat → Int) (j : Nat) (h : j < n) : (zcells n Z)[j]? = some (.int .u8 (Z j)) := by simp [zcells, h]
theorem zcells_one (n : Nat) (Z : Nat → Int) : ∀ v ∈ zcells n Z, v.oneCell' = true := by
  intro v hv
  simp only [zcells, List.mem_map] at hv
  obtain ⟨_, _, rfl⟩ := hv
  rfl

theorem made_block {w w1 : World} {n : Nat} {xs : List Value} (h : w1.ownsRow w.heap.size 5 1 (.slice (some ⟨w.heap.size, 0, none⟩) n n) n xs) :
    ∃ cur : List Value, cur.length = n ∧ w1.heap[w.heap.size]? = some (.cells cur.toArray 5 (0, 0)) := by
  rcases h.2 with ⟨h', _⟩ | ⟨g', cap', cur, h', _, hg, _, _, hs, _⟩
  · simp at h'
  · simp only [Value.slice.injEq, Option.some.injEq, Addr.mk.injEq, and_true, true_and] at h'
    obtain ⟨rfl, rfl⟩ := h'
    exact ⟨cur.toList, by simpa using hs, by simpa using hg⟩

theorem copied {w2 : World} {g n : Nat} {cur : List Value} {Z : Nat → Int} (hl : cur.length = n) (h : w2.heap[g]? = some (.cells (splice cur 0 (zcells n Z)).toArray 5 (0, 0))) : RowB w2 (some ⟨g, 0, none⟩) n Z := by
  have e : splice cur 0 (zcells n Z) = zcells n Z := by
    simp only [splice, List.take_zero, List.nil_append, zcells_len]
    rw [List.drop_eq_nil_of_le (by omega), List.append_nil]
  rw [e] at h
  intro _
  refine ⟨g, 0, rfl, (Array.getElem?_eq_some_iff.1 h).1, fun j hj => ?_⟩
  rw [Nat.zero_add, cell_of_row w2 g j _ 5 (0, 0) h]
  simpa using zcells_at n Z j hj

/-- the source of the copy, as the law asks it -/
theorem source {w : World} {a : Option Addr} {n : Nat} {Z : Nat → Int} {g : Nat} (r : RowB w a n Z) : 0 < (zcells n Z).length → (some (⟨g, 0, none⟩ : Addr) = some ⟨g, 0, none⟩) ∧ ∃ ad, a = some ad ∧ ∀ j v, (zcells n Z)[j]? = some v → w.cell? (ad.add j) = some v := by
  intro h
  rw [zcells_len] at h
  obtain ⟨b, o, e, _, hc⟩ := r h
  refine ⟨rfl, _, e, fun j v hv => ?_⟩
  have hj : j < n := by have := (List.getElem?_eq_some_iff.1 hv).1; rwa [zcells_len] at this
  rw [Addr.add_lit, hc j hj, ← hv, zcells_at n Z j hj]

set_option maxHeartbeats 2000000 in
theorem model_core (F : Interp) (a : Option Addr) (n c : Nat) (Z : Nat → Int) (w : World) (hF : F.answers w.tape) (hn : n ≤ 4096) (r : RowB w a n Z) (hz : ∀ j, j < n → 0 ≤ Z j ∧ Z j ≤ 255) :
    Calls Ybaf.prog 3 #[.slice a n c] w fun e w' => e = .returned (.bool true) ∧ Below w.heap.size w w' := by
  obtain ⟨i0, hi, hz0, hz1, hz2⟩ := info_parts Ybaf.info5
  have hd : decide ((4096 : Int) < (n : Int)) = false := decide_eq_false (by omega)
  have HZ : Hid (∀ j, j < n → 0 ≤ Z j ∧ Z j ≤ 255) := hz
  have HF : Hid (F.answers w.tape) := hF
  clear hz hF
  go_enter Ybaf.func3, Ybaf.ntmps3
  go_wp2
  clear hd
  go_loop [3, 4] (fun x i => ∃ k : Nat, k ≤ n ∧ x = .bool (wt n Z k) ∧ i = .int .i64 k) (fun _ i => n - (intOf i).toNat)
  case atStart => exact ⟨0, Nat.zero_le _, by simp [wt], rfl⟩
  case round =>
    obtain ⟨k, hk, rfl, rfl⟩ := hrel
    by_cases hlt : k < n
    · obtain ⟨b, o, rfl, hb, hc⟩ := r (by omega)
      have cu := hc k hlt
      obtain ⟨hz3, hz4⟩ := HZ.out k hlt
      cases hob : okB (Z k)
      · have HW : Hid (wt n Z (k + 1) = false) := wt_bad hob
        go_wp2_with (first | (go_at_call 5; refine (ok_any _ _ hz3 hz4).mono ?_; rintro e w' ⟨rfl, rfl⟩))
        go_round
        case rel => exact ⟨k + 1, by omega, by rw [HW.out], by go_num⟩
        case measure => simp [intOf]; omega
      · have HW : Hid (wt n Z (k + 1) = wt n Z k) := wt_ok hob
        go_wp2_with (first | (go_at_call 5; refine (ok_any _ _ hz3 hz4).mono ?_; rintro e w' ⟨rfl, rfl⟩))
        go_round
        case rel => exact ⟨k + 1, by omega, by rw [HW.out], by go_num⟩
        case measure => simp [intOf]; omega
    · have HK : Hid (wt n Z k = wt n Z n) := by rw [show k = n by omega]; rfl
      go_wp2_with (first
        | (at_make; refine wpList_make_full _ rfl _ _ 22 rfl w.heap.size 5 i0 _ 1 Ybaf.underlying22 hi hz0 hz1 _ _ _ _ n rfl rfl rfl rfl (by rw [hz2]; omega) (by unfold maxLen; omega) (Nat.le_refl _) ?_; intro w1 hown hgrow; obtain ⟨cur, hcl, hg1⟩ := made_block hown; have hb1 : Below w.heap.size w w1 := (Below.refl _ _).grown hgrow (Nat.le_refl _) (by simp); have r1 := r.below hb1; clear hown hgrow)
        | (refine wpList_copy_splice rfl (.tmp 29) (.tmp 30) 22 22 rfl 5 Ybaf.underlying22 Ybaf.size5 _ a n n n c rfl rfl w.heap.size 0 cur 5 hg1 (zcells n Z) (by rw [zcells_len]; exact (Nat.min_self n).symm) (source r1) (by rw [zcells_len]; omega) (zcells_one n Z) w.heap.size w hb1 (Nat.le_refl _) ?_; intro w2 hg2 hb2; clear hg1))
      have q2 := copied hcl hg2.out
      have r2 := r.below hb2
      have hF2 : F.answers w2.tape := by rw [hb2.tape]; exact HF.out
      rw [HK.out]
      clear HK hg2 hb1 r1 hi hz0 hz1 hz2 hcl HZ
      cases hwt : wt n Z n
      · refine (chk_refuse F a n c Z w2 hF2 hn r2 (wt_false hwt)).mono ?_
        rintro e w3 ⟨⟨p, rfl⟩, hb23⟩
        have hb3 : Below w.heap.size w w3 := hb2.trans (hb23.mono hb2.size)
        have r3 := r2.below hb23
        have q3 := q2.below hb23
        clear hwt hF2 r2 q2
        have R3 := r3
        have Q3 := q3
        clear r3 q3
        go_wp2
        go_loopw [7] (fun x wr => ∃ t : Nat, t ≤ n ∧ x = .int .i64 t ∧ ∃ q, wr = w3.drewN q) (fun x _ => n - (intOf x).toNat)
        case atStart => exact ⟨0, Nat.zero_le _, rfl, 0, rfl⟩
        case round =>
          obtain ⟨t, ht, rfl, q, rfl⟩ := hrel
          by_cases htn : t < n
          · obtain ⟨b1, o1, rfl, hb1', hc1⟩ := R3 (by omega)
            obtain ⟨b2, o2, e2, hb2', hc2⟩ := Q3 (by omega)
            simp only [Option.some.injEq, Addr.mk.injEq, and_true] at e2
            obtain ⟨rfl, rfl⟩ := e2
            have cA := hc1 t htn
            have cB := hc2 t htn
            rw [Nat.zero_add] at cB
            clear hc1 hc2
            go_wp2
            go_quiet (fail)
            go_wp2
            go_roundw
            case rel => exact ⟨t + 1, by omega, by go_num, _, rfl⟩
            case measure => simp [intOf]; omega
          · go_wp2
            go_ret
            exact ⟨rfl, below_drewN hb3 _⟩
      · refine (chk_ok a n c Z w2 hn (wt_true hwt).1 r2 (wt_true hwt).2).mono ?_
        rintro e w3 ⟨rfl, rfl⟩
        have hb3 : Below w.heap.size w w3 := hb2
        have r3 := r2
        have q3 := q2
        clear hwt hF2 r2 q2 hb2
        have R3 := r3
        have Q3 := q3
        clear r3 q3
        go_wp2
        go_loopw [7] (fun x wr => ∃ t : Nat, t ≤ n ∧ x = .int .i64 t ∧ ∃ q, wr = w3.drewN q) (fun x _ => n - (intOf x).toNat)
        case atStart => exact ⟨0, Nat.zero_le _, rfl, 0, rfl⟩
        case round =>
          obtain ⟨t, ht, rfl, q, rfl⟩ := hrel
          by_cases htn : t < n
          · obtain ⟨b1, o1, rfl, hb1', hc1⟩ := R3 (by omega)
            obtain ⟨b2, o2, e2, hb2', hc2⟩ := Q3 (by omega)
            simp only [Option.some.injEq, Addr.mk.injEq, and_true] at e2
            obtain ⟨rfl, rfl⟩ := e2
            have cA := hc1 t htn
            have cB := hc2 t htn
            rw [Nat.zero_add] at cB
            clear hc1 hc2
            go_wp2
            go_quiet (fail)
            go_wp2
            go_roundw
            case rel => exact ⟨t + 1, by omega, by go_num, _, rfl⟩
            case measure => simp [intOf]; omega
          · go_wp2
            go_ret
            exact ⟨rfl, below_drewN hb3 _⟩
end Go.Proofs.YbulkcciqFmt
