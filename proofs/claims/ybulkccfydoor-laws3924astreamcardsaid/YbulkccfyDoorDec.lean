/-
  zzs3924adec: the decimal numeral, built by hand, is the library's 'Lib.itoa'.
-/
import Derived.Test.YbulkccfyDoorOwn
namespace Go.Proofs.YbulkccfyDoor
open Go.ChangeShapes Go.WideShapes Go.ChangeAt Go.RowKit

/-- the digits of a number that is not 0; nothing for 0 -/
def dd (u : Nat) : List UInt8 := if u = 0 then [] else Lib.decDigits u

theorem dd_step (u : Nat) (h : 0 < u) : dd u = dd (u / 10) ++ [UInt8.ofNat (48 + u % 10)] := by
  unfold dd
  rw [if_neg (by omega)]
  by_cases hs : u < 10
  · rw [if_pos (by omega), Lib.decDigits_one hs, Nat.mod_eq_of_lt hs]; rfl
  · rw [if_neg (by omega), Lib.decDigits, dif_neg hs]

theorem dd_len (u : Nat) (h : u < 18446744073709551616) : (dd u).length ≤ 20 := by
  unfold dd
  split
  · simp
  · rw [Lib.decDigits_length]; exact Lib.nDigits_le20 u h

/-- the byte of a digit -/
theorem dig_byte (d : Nat) (h : d < 10) : ((UInt8.ofNat (48 + d)).toNat : Int) = 48 + (d : Int) := by
  rw [UInt8.toNat_ofNat_of_lt' (by show 48 + d < 256; omega)]; omega

theorem one_cell (wr : World) (c : Nat) : ∀ j (hj : j < [UInt8.ofNat (48 + c % 10)].length), (wr.alloc (Obj.cells #[Value.int IntKind.u8 (48 + (c : Int) % 10)] 5)).cell? ((⟨wr.heap.size, 0, none⟩ : Addr).add j) = some (.int .u8 ([UInt8.ofNat (48 + c % 10)][j].toNat : Int)) := by
  intro j hj
  obtain rfl : j = 0 := by simpa using hj
  rw [Addr.add_lit, World.cell?_alloc_at (hn := rfl)]
  simp only [List.getElem_cons_zero]
  rw [dig_byte _ (by omega)]
  simp

theorem rev_take (bs : List UInt8) (q : Nat) (h : q < bs.length) : bs.reverse.take (bs.length - q) = bs.reverse.take (bs.length - (q + 1)) ++ [bs[q]] := by
  have e : bs.length - q = (bs.length - (q + 1)) + 1 := by omega
  rw [e, List.take_succ_eq_append_getElem (by simp; omega)]
  congr 2
  rw [List.getElem_reverse]
  congr 1
  omega

theorem one_new (wr : World) (b : UInt8) : ∀ j (hj : j < [b].length), (wr.alloc (Obj.cells #[Value.int IntKind.u8 (b.toNat : Int)] 5)).cell? ((⟨wr.heap.size, 0, none⟩ : Addr).add j) = some (.int .u8 ([b][j].toNat : Int)) := by
  intro j hj
  obtain rfl : j = 0 := by simpa using hj
  rw [Addr.add_lit, World.cell?_alloc_at (hn := rfl)]
  simp

set_option maxHeartbeats 1000000 in
theorem dec_pos (u : Nat) (hu0 : 0 < u) (hu : (u : Int) ≤ 9223372036854775807) (w : World) :
    Calls Ybad.prog 11 #[.int .i64 (u : Int)] w fun e w' => ∃ v, e = .returned v ∧ Own w.heap.size w' v (dd u) ∧ Below w.heap.size w w' := by
  have h0 : ((u : Int) == 0) = false := by simp; omega
  have hneg : decide ((u : Int) < 0) = false := by simp
  have hw : IntKind.u64.wrap (u : Int) = (u : Int) := by rw [IntKind.wrap_u64]; omega
  have hlen := dd_len u (by omega)
  go_enter Ybad.func11, Ybad.ntmps11
  go_wp2_with fail
  go_loopw [4, 5] (fun x v wr => ∃ (c : Nat) (bs : List UInt8), x = .int .u64 c ∧ c ≤ u ∧ dd u = dd c ++ bs.reverse ∧ Own w.heap.size wr v bs ∧ Below w.heap.size w wr) (fun x _ _ => (intOf x).toNat)
  case atStart => exact ⟨u, [], rfl, Nat.le_refl _, by simp, own_nil _ _, Below.refl _ _⟩
  case round =>
    obtain ⟨c, bs, rfl, hcu, hdd, hown, hb⟩ := hrel
    have HD : Hid (_) := hdd
    have hbl : bs.length ≤ 20 := by rw [hdd] at hlen; simp at hlen; omega
    clear hdd
    have hbs := hb.size
    by_cases hc : 0 < c
    · have hc' : (0 : Int) < (c : Int) := by omega
      have hc2 : (c : Int) ≤ 9223372036854775807 := by omega
      have hcell : ∀ j (hj : j < [UInt8.ofNat (48 + c % 10)].length), (wr.alloc (Obj.cells #[Value.int IntKind.u8 (48 + (c : Int) % 10)] 5)).cell? ((⟨wr.heap.size, 0, none⟩ : Addr).add j) = some (.int .u8 ([UInt8.ofNat (48 + c % 10)][j].toNat : Int)) := one_cell wr c
      have HC : Hid (_) := hcell
      clear hcell
      go_wp2_with (at_builtin; refine app_row w.heap.size _ bs [UInt8.ofNat (48 + c % 10)] ⟨wr.heap.size, 0, none⟩ 1 (.tmp 20) (.tmp 25) rfl rfl rfl (own_alloc hown _) rfl HC.out (by simp; omega) (by simp; omega) ?_; intro v2 w2 hown2 hg2)
      go_roundw
      case rel =>
        refine ⟨c / 10, bs ++ [UInt8.ofNat (48 + c % 10)], by go_num, by omega, ?_, hown2, ?_⟩
        · rw [HD.out, dd_step c hc]; simp
        · exact (hb.alloc hbs _).grown hg2 (by simp; omega) (fun k hk => (World.ownsRow.lt hown k hk).1)
      case measure => simp [intOf]; omega
    · have HR : Hid (dd u = bs.reverse) := by have h2 := HD.out; rw [show c = 0 by omega, show dd 0 = [] from rfl, List.nil_append] at h2; exact h2
      clear HD
      have hbp : 0 < bs.length := by
        have := HR.out; have h2 : 0 < (dd u).length := by rw [dd_step u hu0]; simp
        rw [this] at h2; simpa using h2
      obtain ⟨g, cap, rfl, hBg, hgw, hcells⟩ := own_shape hown hbp
      have HC : Hid (_) := hcells
      clear hcells
      go_wp2
      obtain ⟨w1, hw1⟩ : ∃ x : World, x = wr := ⟨wr, rfl⟩
      subst hw1
      go_loopw [6, 7] (fun o i wx => ∃ (t : Nat) (x : Int), t ≤ bs.length ∧ i = .int .i64 x ∧ x = (t : Int) - 1 ∧ Own w1.heap.size wx o (bs.reverse.take (bs.length - t)) ∧ Below w1.heap.size w1 wx) (fun _ i _ => (intOf i + 1).toNat)
      case atStart => exact ⟨bs.length, _, Nat.le_refl _, rfl, rfl, by simpa using own_nil _ _, Below.refl _ _⟩
      case round =>
        obtain ⟨t, x, ht, rfl, hx, ho, hbx⟩ := hrel
        have hxs := hbx.size
        by_cases ht0 : t = 0
        · subst ht0
          obtain rfl : x = -1 := by omega
          clear hx
          go_wp2
          go_ret
          refine ⟨_, rfl, ?_, hb.trans (hbx.mono hbs)⟩
          rw [HR.out]
          have e : bs.reverse.take (bs.length - 0) = bs.reverse := List.take_of_length_le (by simp)
          rw [e] at ho
          exact own_base ho hbs
        · obtain ⟨q, rfl⟩ : ∃ q, t = q + 1 := ⟨t - 1, by omega⟩
          obtain rfl : x = (q : Int) := by omega
          clear hx
          have cq : wr.cell? ⟨g, q, none⟩ = some (.int .u8 (bs[q].toNat : Int)) := (hbx.cell (by exact hgw)).trans (HC.out q (by omega))
          have HT : Hid (_) := rev_take bs q (by omega)
          have hq : q < bs.length := by omega
          generalize bs[q] = b at *
          have HN : Hid (_) := one_new wr b
          have hol : (bs.reverse.take (bs.length - (q + 1))).length ≤ 30 := by simp; omega
          go_wp2_with (at_builtin; refine app_row w1.heap.size _ _ [b] ⟨wr.heap.size, 0, none⟩ 1 (.tmp 40) (.tmp 45) rfl rfl rfl (own_alloc ho _) rfl HN.out (by simp at hol ⊢; omega) (by simp; omega) ?_; intro v2 w2 hown2 hg2)
          go_roundw
          case rel =>
            refine ⟨q, (q : Int) - 1, by omega, by go_num, rfl, ?_, ?_⟩
            · rw [HT.out]; exact hown2
            · exact (hbx.alloc hxs _).grown hg2 (by simp; omega) (fun k hk => (World.ownsRow.lt ho k hk).1)
          case measure => simp [intOf]
set_option maxHeartbeats 1000000 in
theorem dec_neg (u : Nat) (hu0 : 0 < u) (hu : (u : Int) ≤ 9223372036854775808) (w : World) :
    Calls Ybad.prog 11 #[.int .i64 (-(u : Int))] w fun e w' => ∃ v, e = .returned v ∧ Own w.heap.size w' v (45 :: dd u) ∧ Below w.heap.size w w' := by
  have h0 : (-(u : Int) == 0) = false := by simp; omega
  have hneg : decide (-(u : Int) < 0) = true := by simp; omega
  have hw : IntKind.u64.wrap (-IntKind.u64.wrap (-(u : Int))) = (u : Int) := by rw [IntKind.wrap_u64, IntKind.wrap_u64]; omega
  have hlen := dd_len u (by omega)
  go_enter Ybad.func11, Ybad.ntmps11
  go_wp2_with fail
  go_loopw [4, 5] (fun x v wr => ∃ (c : Nat) (bs : List UInt8), x = .int .u64 c ∧ c ≤ u ∧ dd u = dd c ++ bs.reverse ∧ Own w.heap.size wr v bs ∧ Below w.heap.size w wr) (fun x _ _ => (intOf x).toNat)
  case atStart => exact ⟨u, [], rfl, Nat.le_refl _, by simp, own_nil _ _, Below.refl _ _⟩
  case round =>
    obtain ⟨c, bs, rfl, hcu, hdd, hown, hb⟩ := hrel
    have HD : Hid (_) := hdd
    have hbl : bs.length ≤ 20 := by rw [hdd] at hlen; simp at hlen; omega
    clear hdd
    have hbs := hb.size
    by_cases hc : 0 < c
    · have hc' : (0 : Int) < (c : Int) := by omega
      have hc2 : (c : Int) ≤ 9223372036854775808 := by omega
      have hcell : ∀ j (hj : j < [UInt8.ofNat (48 + c % 10)].length), (wr.alloc (Obj.cells #[Value.int IntKind.u8 (48 + (c : Int) % 10)] 5)).cell? ((⟨wr.heap.size, 0, none⟩ : Addr).add j) = some (.int .u8 ([UInt8.ofNat (48 + c % 10)][j].toNat : Int)) := one_cell wr c
      have HC : Hid (_) := hcell
      clear hcell
      go_wp2_with (at_builtin; refine app_row w.heap.size _ bs [UInt8.ofNat (48 + c % 10)] ⟨wr.heap.size, 0, none⟩ 1 (.tmp 20) (.tmp 25) rfl rfl rfl (own_alloc hown _) rfl HC.out (by simp; omega) (by simp; omega) ?_; intro v2 w2 hown2 hg2)
      go_roundw
      case rel =>
        refine ⟨c / 10, bs ++ [UInt8.ofNat (48 + c % 10)], by go_num, by omega, ?_, hown2, ?_⟩
        · rw [HD.out, dd_step c hc]; simp
        · exact (hb.alloc hbs _).grown hg2 (by simp; omega) (fun k hk => (World.ownsRow.lt hown k hk).1)
      case measure => simp [intOf]; omega
    · have HR : Hid (dd u = bs.reverse) := by have h2 := HD.out; rw [show c = 0 by omega, show dd 0 = [] from rfl, List.nil_append] at h2; exact h2
      clear HD
      have hbp : 0 < bs.length := by
        have := HR.out; have h2 : 0 < (dd u).length := by rw [dd_step u hu0]; simp
        rw [this] at h2; simpa using h2
      obtain ⟨g, cap, rfl, hBg, hgw, hcells⟩ := own_shape hown hbp
      have HC : Hid (_) := hcells
      clear hcells
      obtain ⟨w1, hw1⟩ : ∃ x : World, x = wr := ⟨wr, rfl⟩
      subst hw1
      have HM : Hid (_) := one_new w1 45
      go_wp2_with (at_builtin; refine app_row w1.heap.size (.slice none 0 0) [] [45] ⟨w1.heap.size, 0, none⟩ 1 (.tmp 30) (.tmp 31) rfl rfl rfl (own_nil _ _) rfl HM.out (by simp) (by simp) ?_; intro vm wm hom hgm)
      have hbm : Below w1.heap.size w1 wm := ((Below.refl _ w1).alloc (Nat.le_refl _) _).grown hgm (by simp) (fun k hk => by simp [Value.ownBlock] at hk)
      go_loopw [6, 7] (fun o i wx => ∃ (t : Nat) (x : Int), t ≤ bs.length ∧ i = .int .i64 x ∧ x = (t : Int) - 1 ∧ Own w1.heap.size wx o ([45] ++ bs.reverse.take (bs.length - t)) ∧ Below w1.heap.size w1 wx) (fun _ i _ => (intOf i + 1).toNat)
      case atStart => exact ⟨bs.length, _, Nat.le_refl _, rfl, rfl, by simpa using hom, hbm⟩
      case round =>
        obtain ⟨t, x, ht, rfl, hx, ho, hbx⟩ := hrel
        have hxs := hbx.size
        by_cases ht0 : t = 0
        · subst ht0
          obtain rfl : x = -1 := by omega
          clear hx
          go_wp2
          go_ret
          refine ⟨_, rfl, ?_, hb.trans (hbx.mono hbs)⟩
          rw [HR.out]
          have e : bs.reverse.take (bs.length - 0) = bs.reverse := List.take_of_length_le (by simp)
          rw [e] at ho
          exact own_base ho hbs
        · obtain ⟨q, rfl⟩ : ∃ q, t = q + 1 := ⟨t - 1, by omega⟩
          obtain rfl : x = (q : Int) := by omega
          clear hx
          have cq : wr.cell? ⟨g, q, none⟩ = some (.int .u8 (bs[q].toNat : Int)) := (hbx.cell (by exact hgw)).trans (HC.out q (by omega))
          have HT : Hid (_) := rev_take bs q (by omega)
          have hq : q < bs.length := by omega
          generalize bs[q] = b at *
          have HN : Hid (_) := one_new wr b
          have hol : ([45] ++ bs.reverse.take (bs.length - (q + 1))).length ≤ 30 := by simp; omega
          go_wp2_with (at_builtin; refine app_row w1.heap.size _ _ [b] ⟨wr.heap.size, 0, none⟩ 1 (.tmp 40) (.tmp 45) rfl rfl rfl (own_alloc ho _) rfl HN.out (by simp at hol ⊢; omega) (by simp; omega) ?_; intro v2 w2 hown2 hg2)
          go_roundw
          case rel =>
            refine ⟨q, (q : Int) - 1, by omega, by go_num, rfl, ?_, ?_⟩
            · rw [HT.out, ← List.append_assoc]; exact hown2
            · exact (hbx.alloc hxs _).grown hg2 (by simp; omega) (fun k hk => (World.ownsRow.lt ho k hk).1)
          case measure => simp [intOf]

theorem dec_zero (w : World) :
    Calls Ybad.prog 11 #[.int .i64 0] w fun e w' => ∃ v, e = .returned v ∧ Own w.heap.size w' v [48] ∧ Below w.heap.size w w' := by
  go_enter Ybad.func11, Ybad.ntmps11
  go_wp2
  go_ret
  exact ⟨_, rfl, own_lit w [48] (by decide), (Below.refl _ _).alloc (Nat.le_refl _) _⟩

/-- zzs3924adec, every int -/
theorem dec_any (n : Int) (h0 : -9223372036854775808 ≤ n) (h1 : n ≤ 9223372036854775807) (w : World) :
    Calls Ybad.prog 11 #[.int .i64 n] w fun e w' => ∃ v, e = .returned v ∧ Own w.heap.size w' v (Lib.itoa n) ∧ Below w.heap.size w w' := by
  by_cases hz : n = 0
  · subst hz
    have e : Lib.itoa 0 = [48] := by rw [Lib.itoa, if_neg (by omega), Lib.decDigits_one (by decide)]; rfl
    rw [e]
    exact dec_zero w
  by_cases hn : n < 0
  · obtain ⟨u, rfl⟩ : ∃ u : Nat, n = -(u : Int) := ⟨n.natAbs, by omega⟩
    have e : Lib.itoa (-(u : Int)) = 45 :: dd u := by rw [Lib.itoa, if_pos hn, dd, if_neg (by omega), Int.natAbs_neg, Int.natAbs_natCast]
    rw [e]
    exact dec_neg u (by omega) (by omega) w
  · obtain ⟨u, rfl⟩ : ∃ u : Nat, n = (u : Int) := ⟨n.toNat, by omega⟩
    have e : Lib.itoa (u : Int) = dd u := by rw [Lib.itoa, if_neg hn, dd, if_neg (by omega), Int.toNat_natCast]
    rw [e]
    exact dec_pos u (by omega) (by omega) w
end Go.Proofs.YbulkccfyDoor
