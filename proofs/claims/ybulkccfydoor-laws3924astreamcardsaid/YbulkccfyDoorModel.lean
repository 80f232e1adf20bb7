/-
  zzs3924amodel: the text, built by hand.
-/
import Derived.Test.YbulkccfyDoorText
namespace Go.Proofs.YbulkccfyDoor
open Go.ChangeShapes Go.WideShapes Go.ChangeAt Go.RowKit
set_option linter.unusedSimpArgs false

theorem five_size : (ByteArray.mk #[101, 114, 114, 111, 114]).size = 5 := rfl
theorem seven_size : (ByteArray.mk #[119, 97, 114, 110, 105, 110, 103]).size = 7 := rfl
theorem pos_of_ne {p : ByteArray} (h : p.data.toList.isEmpty = false) : 0 < p.size := by
  have := List.length_pos_iff.2 (ne_of_isEmpty h)
  simpa using this
theorem zero_of_empty {p : ByteArray} (h : p.data.toList.isEmpty = true) : p.size = 0 := by
  have := congrArg List.length (List.isEmpty_iff.1 h)
  simpa using this
theorem itoa_pos (l : Int) : 0 < (Lib.itoa l).length := by
  unfold Lib.itoa
  split
  · simp
  · rw [Lib.decDigits_length]; exact Lib.nDigits_pos _
theorem add_cells {w : World} {g : Nat} {bs : List UInt8} (h : ∀ j (hj : j < bs.length), w.cell? ⟨g, j, none⟩ = some (.int .u8 (bs[j].toNat : Int))) : ∀ j (hj : j < bs.length), w.cell? ((⟨g, 0, none⟩ : Addr).add j) = some (.int .u8 (bs[j].toNat : Int)) := by
  intro j hj
  rw [Addr.add_lit, Nat.zero_add]
  exact h j hj
theorem two_new (wr : World) : ∀ j (hj : j < [(58 : UInt8), 32].length), (wr.alloc (Obj.cells #[Value.int IntKind.u8 58, Value.int IntKind.u8 32] 5)).cell? ((⟨wr.heap.size, 0, none⟩ : Addr).add j) = some (.int .u8 ([(58 : UInt8), 32][j].toNat : Int)) := by
  intro j hj
  rw [Addr.add_lit, World.cell?_alloc_at (hn := rfl), Nat.zero_add]
  match j, hj with
  | 0, _ => rfl
  | 1, _ => rfl

/-- sv owns bs; below M nothing has turned -/
structure Sm (M : Nat) (w wr : World) (sv : Value) (bs : List UInt8) : Prop where
  own : Own M wr sv bs
  bel : Below M w wr
  le : M ≤ wr.heap.size
theorem Sm.grown {M : Nat} {w wr w' : World} {sv v' : Value} {bs bs' : List UInt8} (h : Sm M w wr sv bs) (hg : wr.grownBy w' sv.ownBlock) (ho : Own M w' v' bs') : Sm M w w' v' bs' :=
  ⟨ho, h.bel.grown hg h.le (fun k hk => (World.ownsRow.lt h.own k hk).1), Nat.le_trans h.le hg.size⟩
theorem Sm.alloc {M : Nat} {w wr : World} {sv : Value} {bs : List UInt8} (h : Sm M w wr sv bs) (o : Obj) : Sm M w (wr.alloc o) sv bs :=
  ⟨own_alloc h.own o, h.bel.alloc h.le o, by simp; have := h.le; omega⟩
theorem Sm.call {M : Nat} {w wr w' : World} {sv : Value} {bs : List UInt8} (h : Sm M w wr sv bs) (hb : Below wr.heap.size wr w') : Sm M w w' sv bs :=
  ⟨own_below h.own hb (Nat.le_refl _), h.bel.trans (hb.mono h.le), Nat.le_trans h.le hb.size⟩

set_option maxHeartbeats 1000000 in
theorem model_pe (p : ByteArray) (l : Int) (u : ByteArray) (v : Int) (m : ByteArray) (w : World) (hp : p.data.toList.isEmpty = false) (hl0 : -9223372036854775808 ≤ l) (hl1 : l ≤ 9223372036854775807) (hv : v = 1)
    (hps : p.size ≤ 1024) (hus : u.size ≤ 1024) (hms : m.size ≤ 1024) :
    Calls Ybad.prog 7 #[.string p, .int .i64 l, .string u, .int .i64 v, .string m] w fun e w' => ∃ v', e = .returned v' ∧ Own w.heap.size w' v' (txt p.data.toList l u.data.toList v m.data.toList) ∧ Below w.heap.size w w' := by
  have hpl := len_of hps
  have hul := len_of hus
  have hml := len_of hms
  obtain ⟨M, hM⟩ : ∃ M, M = w.heap.size := ⟨_, rfl⟩
  have st0 : Sm M w w (.slice none 0 0) [] := ⟨own_nil _ _, Below.refl _ _, by omega⟩
  rw [← hM]
  clear hM
  have hi := Lib.itoa_length_le l hl0 hl1
  have hpos : 0 < p.size := pos_of_ne hp
  have HN : Hid (_) := hp
  subst hv
  clear hp
  go_enter Ybad.func7, Ybad.ntmps7
  go_wp2_with (first
    | (at_builtin; refine app_str M _ [] p (.tmp 15) (.tmp 16) rfl rfl rfl st0.own rfl (by simp only [List.length_nil]; omega) st0.le ?_; intro v1 w1 ho1 hg1; have st1 := st0.grown hg1 ho1; clear ho1 hg1)
    | (at_builtin; refine app_row M _ _ [58] ⟨w1.heap.size, 0, none⟩ 1 (.tmp 18) (.tmp 19) rfl rfl rfl (st1.alloc _).own rfl (one_new w1 58) (by simp only [List.length_append, List.length_cons, List.length_nil, two_size, five_size, seven_size]; omega) (st1.alloc _).le ?_; intro v2 w2 ho2 hg2; have st2 := (st1.alloc _).grown hg2 ho2; clear ho2 hg2)
    | (go_at_call 11; refine (dec_any l hl0 hl1 w2).mono ?_; rintro e w8 ⟨v8, rfl, ho8, hb8⟩; obtain ⟨g, cap, rfl, _, _, hc8⟩ := own_shape ho8 (itoa_pos l); have st8 := st2.call hb8; have HC : Hid (_) := add_cells hc8; clear hc8 ho8 hb8)
    | (at_builtin; refine app_row M _ _ (Lib.itoa l) ⟨g, 0, none⟩ cap (.tmp 21) (.tmp 23) rfl rfl rfl st8.own rfl HC.out (by simp only [List.length_append, List.length_cons, List.length_nil, two_size, five_size, seven_size]; omega) st8.le ?_; intro v3 w3 ho3 hg3; have st3 := st8.grown hg3 ho3; clear ho3 hg3)
    | (at_builtin; refine app_row M _ _ [58, 32] ⟨w3.heap.size, 0, none⟩ 2 (.tmp 28) (.tmp 29) rfl rfl rfl (st3.alloc _).own rfl (two_new w3) (by simp only [List.length_append, List.length_cons, List.length_nil, two_size, five_size, seven_size]; omega) (st3.alloc _).le ?_; intro v4 w4 ho4 hg4; have st4 := (st3.alloc _).grown hg4 ho4; clear ho4 hg4)
    | (at_builtin; refine app_str M _ _ ⟨#[101, 114, 114, 111, 114]⟩ _ _ rfl rfl rfl st4.own rfl (by simp only [List.length_append, List.length_cons, List.length_nil, two_size, five_size, seven_size]; omega) st4.le ?_; intro v5 w5 ho5 hg5; have st5 : Sm M w w5 v5 (_ ++ [101, 114, 114, 111, 114]) := st4.grown hg5 ho5; clear ho5 hg5)
    | (at_builtin; refine app_row M _ _ [58, 32] ⟨w5.heap.size, 0, none⟩ 2 (.tmp 37) (.tmp 38) rfl rfl rfl (st5.alloc _).own rfl (two_new w5) (by simp only [List.length_append, List.length_cons, List.length_nil, two_size, five_size, seven_size]; omega) (st5.alloc _).le ?_; intro v6 w6 ho6 hg6; have st6 := (st5.alloc _).grown hg6 ho6; clear ho6 hg6)
    | (at_builtin; refine app_str M _ _ m (.tmp 40) (.tmp 41) rfl rfl rfl st6.own rfl (by simp only [List.length_append, List.length_cons, List.length_nil, two_size, five_size, seven_size]; omega) st6.le ?_; intro v7 w7 ho7 hg7; have st7 := st6.grown hg7 ho7; clear ho7 hg7))
  go_ret
  refine ⟨v7, rfl, ?_, st7.bel⟩
  have ho := st7.own
  simpa [txt, loc, lev, ne_of_isEmpty HN.out] using ho

set_option maxHeartbeats 1000000 in
theorem model_pw (p : ByteArray) (l : Int) (u : ByteArray) (v : Int) (m : ByteArray) (w : World) (hp : p.data.toList.isEmpty = false) (hl0 : -9223372036854775808 ≤ l) (hl1 : l ≤ 9223372036854775807) (hv : ¬ v = 1)
    (hps : p.size ≤ 1024) (hus : u.size ≤ 1024) (hms : m.size ≤ 1024) :
    Calls Ybad.prog 7 #[.string p, .int .i64 l, .string u, .int .i64 v, .string m] w fun e w' => ∃ v', e = .returned v' ∧ Own w.heap.size w' v' (txt p.data.toList l u.data.toList v m.data.toList) ∧ Below w.heap.size w w' := by
  have hpl := len_of hps
  have hul := len_of hus
  have hml := len_of hms
  obtain ⟨M, hM⟩ : ∃ M, M = w.heap.size := ⟨_, rfl⟩
  have st0 : Sm M w w (.slice none 0 0) [] := ⟨own_nil _ _, Below.refl _ _, by omega⟩
  rw [← hM]
  clear hM
  have hi := Lib.itoa_length_le l hl0 hl1
  have hpos : 0 < p.size := pos_of_ne hp
  have HN : Hid (_) := hp
  have hvb : (v == 1) = false := by simp [hv]
  have HV : Hid (¬ v = 1) := hv
  clear hv
  clear hp
  go_enter Ybad.func7, Ybad.ntmps7
  go_wp2_with (first
    | (at_builtin; refine app_str M _ [] p (.tmp 15) (.tmp 16) rfl rfl rfl st0.own rfl (by simp only [List.length_nil]; omega) st0.le ?_; intro v1 w1 ho1 hg1; have st1 := st0.grown hg1 ho1; clear ho1 hg1)
    | (at_builtin; refine app_row M _ _ [58] ⟨w1.heap.size, 0, none⟩ 1 (.tmp 18) (.tmp 19) rfl rfl rfl (st1.alloc _).own rfl (one_new w1 58) (by simp only [List.length_append, List.length_cons, List.length_nil, two_size, five_size, seven_size]; omega) (st1.alloc _).le ?_; intro v2 w2 ho2 hg2; have st2 := (st1.alloc _).grown hg2 ho2; clear ho2 hg2)
    | (go_at_call 11; refine (dec_any l hl0 hl1 w2).mono ?_; rintro e w8 ⟨v8, rfl, ho8, hb8⟩; obtain ⟨g, cap, rfl, _, _, hc8⟩ := own_shape ho8 (itoa_pos l); have st8 := st2.call hb8; have HC : Hid (_) := add_cells hc8; clear hc8 ho8 hb8)
    | (at_builtin; refine app_row M _ _ (Lib.itoa l) ⟨g, 0, none⟩ cap (.tmp 21) (.tmp 23) rfl rfl rfl st8.own rfl HC.out (by simp only [List.length_append, List.length_cons, List.length_nil, two_size, five_size, seven_size]; omega) st8.le ?_; intro v3 w3 ho3 hg3; have st3 := st8.grown hg3 ho3; clear ho3 hg3)
    | (at_builtin; refine app_row M _ _ [58, 32] ⟨w3.heap.size, 0, none⟩ 2 (.tmp 28) (.tmp 29) rfl rfl rfl (st3.alloc _).own rfl (two_new w3) (by simp only [List.length_append, List.length_cons, List.length_nil, two_size, five_size, seven_size]; omega) (st3.alloc _).le ?_; intro v4 w4 ho4 hg4; have st4 := (st3.alloc _).grown hg4 ho4; clear ho4 hg4)
    | (at_builtin; refine app_str M _ _ ⟨#[119, 97, 114, 110, 105, 110, 103]⟩ _ _ rfl rfl rfl st4.own rfl (by simp only [List.length_append, List.length_cons, List.length_nil, two_size, five_size, seven_size]; omega) st4.le ?_; intro v5 w5 ho5 hg5; have st5 : Sm M w w5 v5 (_ ++ [119, 97, 114, 110, 105, 110, 103]) := st4.grown hg5 ho5; clear ho5 hg5)
    | (at_builtin; refine app_row M _ _ [58, 32] ⟨w5.heap.size, 0, none⟩ 2 (.tmp 37) (.tmp 38) rfl rfl rfl (st5.alloc _).own rfl (two_new w5) (by simp only [List.length_append, List.length_cons, List.length_nil, two_size, five_size, seven_size]; omega) (st5.alloc _).le ?_; intro v6 w6 ho6 hg6; have st6 := (st5.alloc _).grown hg6 ho6; clear ho6 hg6)
    | (at_builtin; refine app_str M _ _ m (.tmp 40) (.tmp 41) rfl rfl rfl st6.own rfl (by simp only [List.length_append, List.length_cons, List.length_nil, two_size, five_size, seven_size]; omega) st6.le ?_; intro v7 w7 ho7 hg7; have st7 := st6.grown hg7 ho7; clear ho7 hg7))
  go_ret
  refine ⟨v7, rfl, ?_, st7.bel⟩
  have ho := st7.own
  simpa [txt, loc, lev, ne_of_isEmpty HN.out, show ¬ v = 1 from HV.out] using ho

set_option maxHeartbeats 1000000 in
theorem model_ue (p : ByteArray) (l : Int) (u : ByteArray) (v : Int) (m : ByteArray) (w : World) (hp : p.data.toList.isEmpty = true) (hv : v = 1)
    (hps : p.size ≤ 1024) (hus : u.size ≤ 1024) (hms : m.size ≤ 1024) :
    Calls Ybad.prog 7 #[.string p, .int .i64 l, .string u, .int .i64 v, .string m] w fun e w' => ∃ v', e = .returned v' ∧ Own w.heap.size w' v' (txt p.data.toList l u.data.toList v m.data.toList) ∧ Below w.heap.size w w' := by
  have hpl := len_of hps
  have hul := len_of hus
  have hml := len_of hms
  obtain ⟨M, hM⟩ : ∃ M, M = w.heap.size := ⟨_, rfl⟩
  have st0 : Sm M w w (.slice none 0 0) [] := ⟨own_nil _ _, Below.refl _ _, by omega⟩
  rw [← hM]
  clear hM
  have hpos : p.size = 0 := zero_of_empty hp
  have HN : Hid (_) := hp
  subst hv
  clear hp
  go_enter Ybad.func7, Ybad.ntmps7
  go_wp2_with (first
    | (at_builtin; refine app_str M _ [] u (.tmp 25) (.tmp 26) rfl rfl rfl st0.own rfl (by simp only [List.length_nil]; omega) st0.le ?_; intro v3 w3 ho3 hg3; have st3 := st0.grown hg3 ho3; clear ho3 hg3)
    | (at_builtin; refine app_row M _ _ [58, 32] ⟨w3.heap.size, 0, none⟩ 2 (.tmp 28) (.tmp 29) rfl rfl rfl (st3.alloc _).own rfl (two_new w3) (by simp only [List.length_append, List.length_cons, List.length_nil, two_size, five_size, seven_size]; omega) (st3.alloc _).le ?_; intro v4 w4 ho4 hg4; have st4 := (st3.alloc _).grown hg4 ho4; clear ho4 hg4)
    | (at_builtin; refine app_str M _ _ ⟨#[101, 114, 114, 111, 114]⟩ _ _ rfl rfl rfl st4.own rfl (by simp only [List.length_append, List.length_cons, List.length_nil, two_size, five_size, seven_size]; omega) st4.le ?_; intro v5 w5 ho5 hg5; have st5 : Sm M w w5 v5 (_ ++ [101, 114, 114, 111, 114]) := st4.grown hg5 ho5; clear ho5 hg5)
    | (at_builtin; refine app_row M _ _ [58, 32] ⟨w5.heap.size, 0, none⟩ 2 (.tmp 37) (.tmp 38) rfl rfl rfl (st5.alloc _).own rfl (two_new w5) (by simp only [List.length_append, List.length_cons, List.length_nil, two_size, five_size, seven_size]; omega) (st5.alloc _).le ?_; intro v6 w6 ho6 hg6; have st6 := (st5.alloc _).grown hg6 ho6; clear ho6 hg6)
    | (at_builtin; refine app_str M _ _ m (.tmp 40) (.tmp 41) rfl rfl rfl st6.own rfl (by simp only [List.length_append, List.length_cons, List.length_nil, two_size, five_size, seven_size]; omega) st6.le ?_; intro v7 w7 ho7 hg7; have st7 := st6.grown hg7 ho7; clear ho7 hg7))
  go_ret
  refine ⟨v7, rfl, ?_, st7.bel⟩
  have ho := st7.own
  simpa [txt, loc, lev, List.isEmpty_iff.1 HN.out] using ho

set_option maxHeartbeats 1000000 in
theorem model_uw (p : ByteArray) (l : Int) (u : ByteArray) (v : Int) (m : ByteArray) (w : World) (hp : p.data.toList.isEmpty = true) (hv : ¬ v = 1)
    (hps : p.size ≤ 1024) (hus : u.size ≤ 1024) (hms : m.size ≤ 1024) :
    Calls Ybad.prog 7 #[.string p, .int .i64 l, .string u, .int .i64 v, .string m] w fun e w' => ∃ v', e = .returned v' ∧ Own w.heap.size w' v' (txt p.data.toList l u.data.toList v m.data.toList) ∧ Below w.heap.size w w' := by
  have hpl := len_of hps
  have hul := len_of hus
  have hml := len_of hms
  obtain ⟨M, hM⟩ : ∃ M, M = w.heap.size := ⟨_, rfl⟩
  have st0 : Sm M w w (.slice none 0 0) [] := ⟨own_nil _ _, Below.refl _ _, by omega⟩
  rw [← hM]
  clear hM
  have hpos : p.size = 0 := zero_of_empty hp
  have HN : Hid (_) := hp
  have hvb : (v == 1) = false := by simp [hv]
  have HV : Hid (¬ v = 1) := hv
  clear hv
  clear hp
  go_enter Ybad.func7, Ybad.ntmps7
  go_wp2_with (first
    | (at_builtin; refine app_str M _ [] u (.tmp 25) (.tmp 26) rfl rfl rfl st0.own rfl (by simp only [List.length_nil]; omega) st0.le ?_; intro v3 w3 ho3 hg3; have st3 := st0.grown hg3 ho3; clear ho3 hg3)
    | (at_builtin; refine app_row M _ _ [58, 32] ⟨w3.heap.size, 0, none⟩ 2 (.tmp 28) (.tmp 29) rfl rfl rfl (st3.alloc _).own rfl (two_new w3) (by simp only [List.length_append, List.length_cons, List.length_nil, two_size, five_size, seven_size]; omega) (st3.alloc _).le ?_; intro v4 w4 ho4 hg4; have st4 := (st3.alloc _).grown hg4 ho4; clear ho4 hg4)
    | (at_builtin; refine app_str M _ _ ⟨#[119, 97, 114, 110, 105, 110, 103]⟩ _ _ rfl rfl rfl st4.own rfl (by simp only [List.length_append, List.length_cons, List.length_nil, two_size, five_size, seven_size]; omega) st4.le ?_; intro v5 w5 ho5 hg5; have st5 : Sm M w w5 v5 (_ ++ [119, 97, 114, 110, 105, 110, 103]) := st4.grown hg5 ho5; clear ho5 hg5)
    | (at_builtin; refine app_row M _ _ [58, 32] ⟨w5.heap.size, 0, none⟩ 2 (.tmp 37) (.tmp 38) rfl rfl rfl (st5.alloc _).own rfl (two_new w5) (by simp only [List.length_append, List.length_cons, List.length_nil, two_size, five_size, seven_size]; omega) (st5.alloc _).le ?_; intro v6 w6 ho6 hg6; have st6 := (st5.alloc _).grown hg6 ho6; clear ho6 hg6)
    | (at_builtin; refine app_str M _ _ m (.tmp 40) (.tmp 41) rfl rfl rfl st6.own rfl (by simp only [List.length_append, List.length_cons, List.length_nil, two_size, five_size, seven_size]; omega) st6.le ?_; intro v7 w7 ho7 hg7; have st7 := st6.grown hg7 ho7; clear ho7 hg7))
  go_ret
  refine ⟨v7, rfl, ?_, st7.bel⟩
  have ho := st7.own
  simpa [txt, loc, lev, List.isEmpty_iff.1 HN.out, show ¬ v = 1 from HV.out] using ho

theorem model_any (p : ByteArray) (l : Int) (u : ByteArray) (v : Int) (m : ByteArray) (w : World) (hl0 : -9223372036854775808 ≤ l) (hl1 : l ≤ 9223372036854775807)
    (hps : p.size ≤ 1024) (hus : u.size ≤ 1024) (hms : m.size ≤ 1024) :
    Calls Ybad.prog 7 #[.string p, .int .i64 l, .string u, .int .i64 v, .string m] w fun e w' => ∃ v', e = .returned v' ∧ Own w.heap.size w' v' (txt p.data.toList l u.data.toList v m.data.toList) ∧ Below w.heap.size w w' := by
  cases hp : p.data.toList.isEmpty
  · by_cases hv : v = 1
    · exact model_pe p l u v m w hp hl0 hl1 hv hps hus hms
    · exact model_pw p l u v m w hp hl0 hl1 hv hps hus hms
  · by_cases hv : v = 1
    · exact model_ue p l u v m w hp hv hps hus hms
    · exact model_uw p l u v m w hp hv hps hus hms
end Go.Proofs.YbulkccfyDoor
