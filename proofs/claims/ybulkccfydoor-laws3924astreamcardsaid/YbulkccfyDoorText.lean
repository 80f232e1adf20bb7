/-
  Level.String, Finding.AppendText, Finding.String, zzs3924amodel: each writes the one text 'txt'.
-/
import Derived.Test.YbulkccfyDoorShelf
import Derived.Test.YbulkccfyDoorDec
import Derived.WalkSpells
import Derived.Laws.IdiomStrings
import Derived.Lib.Strings
namespace Go.Proofs.YbulkccfyDoor
open Go.ChangeShapes Go.WideShapes Go.ChangeAt Go.RowKit
set_option linter.unusedSimpArgs false

def lev (v : Int) : List UInt8 := if v = 1 then [101, 114, 114, 111, 114] else [119, 97, 114, 110, 105, 110, 103]
/-- LOCATION: LEVEL: MESSAGE -/
def loc (p : List UInt8) (l : Int) (u : List UInt8) : List UInt8 := if p = [] then u else p ++ [58] ++ Lib.itoa l
def txt (p : List UInt8) (l : Int) (u : List UInt8) (v : Int) (m : List UInt8) : List UInt8 := loc p l u ++ [58, 32] ++ lev v ++ [58, 32] ++ m

theorem lev_len (v : Int) : (lev v).length ≤ 7 := by unfold lev; split <;> decide

theorem level_any (v : Int) (w : World) : Calls Ybad.prog 10 #[.int .i64 v] w fun e w' => ∃ t : ByteArray, t.data.toList = lev v ∧ t.size ≤ 7 ∧ e = .returned (.string t) ∧ w' = w := by
  unfold lev
  by_cases h : v = 1
  · subst h
    go_enter Ybad.func10, Ybad.ntmps10
    go_wp2
    go_ret
    exact ⟨_, rfl, by decide, rfl, rfl⟩
  · have hb : (v == 1) = false := by simp [h]
    rw [if_neg h]
    go_enter Ybad.func10, Ybad.ntmps10
    go_wp2
    go_ret
    exact ⟨_, rfl, by decide, rfl, rfl⟩

/-- a Finding by value -/
def fnd (p : ByteArray) (l : Int) (u : ByteArray) (v : Int) (m : ByteArray) : Array Value := #[.string p, .int .i64 l, .string u, .int .i64 v, .string m]

/-- in the world wr (which comes from w): sv owns bs; block fb holds the boxed Finding; below B nothing has turned -/
structure St (B fb : Nat) (cs : Array Value) (w wr : World) (sv : Value) (bs : List UInt8) : Prop where
  own : Own B wr sv bs
  bel : Below B w wr
  box : wr.heap[fb]? = some (.cells cs 25 (0, 0))
  le : B ≤ wr.heap.size

theorem St.grown {B fb : Nat} {cs : Array Value} {w wr w' : World} {sv v' : Value} {bs bs' : List UInt8} (h : St B fb cs w wr sv bs) (hg : wr.grownBy w' sv.ownBlock) (ho : Own B w' v' bs') : St B fb cs w w' v' bs' := by
  refine ⟨ho, h.bel.grown hg h.le (fun k hk => (World.ownsRow.lt h.own k hk).1), ?_, Nat.le_trans h.le hg.size⟩
  rw [hg.block fb (Array.getElem?_eq_some_iff.1 h.box).1 ?_]
  · exact h.box
  · intro e
    rcases h.own.2 with ⟨rfl, _⟩ | ⟨g, cap, cur, rfl, hb, hgg, _⟩
    · simp [Value.ownBlock] at e
    · simp [Value.ownBlock] at e
      subst e
      rw [h.box] at hgg
      simp at hgg

theorem St.alloc {B fb : Nat} {cs : Array Value} {w wr : World} {sv : Value} {bs : List UInt8} (h : St B fb cs w wr sv bs) (o : Obj) : St B fb cs w (wr.alloc o) sv bs := by
  refine ⟨own_alloc h.own o, h.bel.alloc h.le o, ?_, by simp; have := h.le; omega⟩
  rw [Below.heap_alloc _ _ _ (Array.getElem?_eq_some_iff.1 h.box).1]
  exact h.box

theorem St.call {B fb : Nat} {cs : Array Value} {w wr w' : World} {sv v' : Value} {bs bs' : List UInt8} (h : St B fb cs w wr sv bs) (ho : Own B w' v' bs') (hb : Below B wr w') (hk : Lib.OthersKept 5 none wr w') : St B fb cs w w' v' bs' :=
  ⟨ho, h.bel.trans hb, hk fb _ h.box (by simp) (by intro c fz e; simp at e), Nat.le_trans h.le hb.size⟩

theorem St.cell {B fb : Nat} {cs : Array Value} {w wr : World} {sv : Value} {bs : List UInt8} (h : St B fb cs w wr sv bs) (j : Nat) : wr.cell? ⟨fb, j, none⟩ = cs[j]? := by
  simp [World.cell?, h.box]

theorem len_of {p : ByteArray} (h : p.size ≤ 1024) : p.data.toList.length ≤ 1024 := by simpa using h
theorem two_size : (ByteArray.mk #[58, 32]).size = 2 := rfl
theorem ne_of_isEmpty {l : List UInt8} (h : l.isEmpty = false) : ¬ l = [] := by intro e; subst e; simp at h

set_option maxHeartbeats 1000000 in
theorem append_path (B : Nat) (p : ByteArray) (l : Int) (u : ByteArray) (v : Int) (m : ByteArray) (sv : Value) (bs : List UInt8) (w : World) (hp : p.data.toList.isEmpty = false) (hl0 : -9223372036854775808 ≤ l) (hl1 : l ≤ 9223372036854775807)
    (hps : p.size ≤ 1024) (hus : u.size ≤ 1024) (hms : m.size ≤ 1024) (hbl : bs.length ≤ 10000) (hown : Own B w sv bs) (hB : B ≤ w.heap.size) (htab : Lib.TabBelow Ybad.prog B w powName .u64 Lib.pow10Tab) :
    Calls Ybad.prog 6 #[.agg (fnd p l u v m), sv] w fun e w' => ∃ v', e = .returned (.tuple #[v', .nilIface]) ∧ Own B w' v' (bs ++ txt p.data.toList l u.data.toList v m.data.toList) ∧ Below B w w' := by
  have st0 : St B w.heap.size (fnd p l u v m) w (w.alloc (.cells (fnd p l u v m) 25)) sv bs :=
    ⟨own_alloc hown _, (Below.refl _ _).alloc hB _, heap_alloc_new w _, by simp; omega⟩
  have hpl := len_of hps
  have hul := len_of hus
  have hml := len_of hms
  have hi := Lib.itoa_length_le l hl0 hl1
  have hne : p.toList.isEmpty = false := by rw [Lib.toList_data]; exact hp
  have HN : Hid (_) := hp
  unfold fnd at *
  clear hown hp
  go_enter Ybad.func6, Ybad.ntmps6
  go_wp2_with (first
    | (at_builtin; refine app_str B sv bs p (.tmp 9) (.tmp 11) rfl rfl rfl st0.own rfl (by omega) st0.le ?_; intro v1 w1 ho1 hg1; have st1 := st0.grown hg1 ho1; have c1 := st1.cell; clear ho1 hg1)
    | (at_builtin; refine app_row B v1 _ [58] ⟨w1.heap.size, 0, none⟩ 1 (.tmp 13) (.tmp 14) rfl rfl rfl (st1.alloc _).own rfl (one_new w1 58) (by simp only [List.length_append, List.length_cons, List.length_nil]; omega) (st1.alloc _).le ?_; intro v2 w2 ho2 hg2; have st2 := (st1.alloc _).grown hg2 ho2; have c2 := st2.cell; clear ho2 hg2 c1)
    | (go_at_call 9; refine (app_int B l hl0 hl1 v2 _ w2 st2.own st2.le (by simp only [List.length_append, List.length_cons, List.length_nil]; omega) (htab.on st2.bel)).mono ?_; rintro e w3 ⟨v3, rfl, ho3, hb3, hk3⟩; have st3 := st2.call ho3 hb3 hk3; have c3 := st3.cell; clear ho3 hb3 hk3 c2)
    | (at_builtin; refine app_str B _ _ ⟨#[58, 32]⟩ (.tmp 24) _ rfl rfl rfl st3.own rfl (by simp only [List.length_append, List.length_cons, List.length_nil, two_size]; omega) st3.le ?_; intro v4 w4 ho4 hg4; have st4 : St B w.heap.size _ w w4 v4 (_ ++ [58, 32]) := st3.grown hg4 ho4; have c4 := st4.cell; clear ho4 hg4 c3)
    | (go_at_call 10; refine (level_any v _).mono ?_; rintro e w5 ⟨t, ht, hts, rfl, rfl⟩; have HT : Hid (_) := ht; clear ht; have htl : t.data.toList.length ≤ 7 := by simpa using hts)
    | (at_builtin; refine app_str B _ _ t (.tmp 26) (.tmp 29) rfl rfl rfl st4.own rfl (by simp only [List.length_append, List.length_cons, List.length_nil, two_size]; omega) st4.le ?_; intro v6 w6 ho6 hg6; have st6 := st4.grown hg6 ho6; have c6 := st6.cell; clear ho6 hg6 c4)
    | (at_builtin; refine app_str B _ _ ⟨#[58, 32]⟩ (.tmp 31) _ rfl rfl rfl st6.own rfl (by simp only [List.length_append, List.length_cons, List.length_nil, two_size]; omega) st6.le ?_; intro v7 w7 ho7 hg7; have st7 : St B w.heap.size _ w w7 v7 (_ ++ [58, 32]) := st6.grown hg7 ho7; have c7 := st7.cell; clear ho7 hg7 c6)
    | (at_builtin; refine app_str B _ _ m (.tmp 33) (.tmp 35) rfl rfl rfl st7.own rfl (by simp only [List.length_append, List.length_cons, List.length_nil, two_size]; omega) st7.le ?_; intro v8 w8 ho8 hg8; have st8 := st7.grown hg8 ho8; clear ho8 hg8 c7))
  go_ret2
  refine ⟨v8, rfl, ?_, st8.bel⟩
  have ho := st8.own
  rw [HT.out] at ho
  simpa [txt, loc, ne_of_isEmpty HN.out] using ho
set_option maxHeartbeats 1000000 in
theorem append_unit (B : Nat) (p : ByteArray) (l : Int) (u : ByteArray) (v : Int) (m : ByteArray) (sv : Value) (bs : List UInt8) (w : World) (hp : p.data.toList.isEmpty = true)
    (hps : p.size ≤ 1024) (hus : u.size ≤ 1024) (hms : m.size ≤ 1024) (hbl : bs.length ≤ 10000) (hown : Own B w sv bs) (hB : B ≤ w.heap.size) :
    Calls Ybad.prog 6 #[.agg (fnd p l u v m), sv] w fun e w' => ∃ v', e = .returned (.tuple #[v', .nilIface]) ∧ Own B w' v' (bs ++ txt p.data.toList l u.data.toList v m.data.toList) ∧ Below B w w' := by
  have st0 : St B w.heap.size (fnd p l u v m) w (w.alloc (.cells (fnd p l u v m) 25)) sv bs :=
    ⟨own_alloc hown _, (Below.refl _ _).alloc hB _, heap_alloc_new w _, by simp; omega⟩
  have hpl := len_of hps
  have hul := len_of hus
  have hml := len_of hms
  have hne : p.toList.isEmpty = true := by rw [Lib.toList_data]; exact hp
  have HN : Hid (_) := hp
  unfold fnd at *
  clear hown hp
  go_enter Ybad.func6, Ybad.ntmps6
  go_wp2_with (first
    | (at_builtin; refine app_str B sv bs u (.tmp 20) (.tmp 22) rfl rfl rfl st0.own rfl (by omega) st0.le ?_; intro v3 w3 ho3 hg3; have st3 := st0.grown hg3 ho3; have c3 := st3.cell; clear ho3 hg3)
    | (at_builtin; refine app_str B _ _ ⟨#[58, 32]⟩ (.tmp 24) _ rfl rfl rfl st3.own rfl (by simp only [List.length_append, List.length_cons, List.length_nil, two_size]; omega) st3.le ?_; intro v4 w4 ho4 hg4; have st4 : St B w.heap.size _ w w4 v4 (_ ++ [58, 32]) := st3.grown hg4 ho4; have c4 := st4.cell; clear ho4 hg4 c3)
    | (go_at_call 10; refine (level_any v _).mono ?_; rintro e w5 ⟨t, ht, hts, rfl, rfl⟩; have HT : Hid (_) := ht; clear ht; have htl : t.data.toList.length ≤ 7 := by simpa using hts)
    | (at_builtin; refine app_str B _ _ t (.tmp 26) (.tmp 29) rfl rfl rfl st4.own rfl (by simp only [List.length_append, List.length_cons, List.length_nil, two_size]; omega) st4.le ?_; intro v6 w6 ho6 hg6; have st6 := st4.grown hg6 ho6; have c6 := st6.cell; clear ho6 hg6 c4)
    | (at_builtin; refine app_str B _ _ ⟨#[58, 32]⟩ (.tmp 31) _ rfl rfl rfl st6.own rfl (by simp only [List.length_append, List.length_cons, List.length_nil, two_size]; omega) st6.le ?_; intro v7 w7 ho7 hg7; have st7 : St B w.heap.size _ w w7 v7 (_ ++ [58, 32]) := st6.grown hg7 ho7; have c7 := st7.cell; clear ho7 hg7 c6)
    | (at_builtin; refine app_str B _ _ m (.tmp 33) (.tmp 35) rfl rfl rfl st7.own rfl (by simp only [List.length_append, List.length_cons, List.length_nil, two_size]; omega) st7.le ?_; intro v8 w8 ho8 hg8; have st8 := st7.grown hg8 ho8; clear ho8 hg8 c7))
  go_ret2
  refine ⟨v8, rfl, ?_, st8.bel⟩
  have ho := st8.own
  rw [HT.out] at ho
  simpa [txt, loc, List.isEmpty_iff.1 HN.out] using ho

theorem append_any (B : Nat) (p : ByteArray) (l : Int) (u : ByteArray) (v : Int) (m : ByteArray) (sv : Value) (bs : List UInt8) (w : World) (hl0 : -9223372036854775808 ≤ l) (hl1 : l ≤ 9223372036854775807)
    (hps : p.size ≤ 1024) (hus : u.size ≤ 1024) (hms : m.size ≤ 1024) (hbl : bs.length ≤ 10000) (hown : Own B w sv bs) (hB : B ≤ w.heap.size) (htab : Lib.TabBelow Ybad.prog B w powName .u64 Lib.pow10Tab) :
    Calls Ybad.prog 6 #[.agg (fnd p l u v m), sv] w fun e w' => ∃ v', e = .returned (.tuple #[v', .nilIface]) ∧ Own B w' v' (bs ++ txt p.data.toList l u.data.toList v m.data.toList) ∧ Below B w w' := by
  cases hp : p.data.toList.isEmpty
  · exact append_path B p l u v m sv bs w hp hl0 hl1 hps hus hms hbl hown hB htab
  · exact append_unit B p l u v m sv bs w hp hps hus hms hbl hown hB

theorem txt_len (p : List UInt8) (l : Int) (u : List UInt8) (v : Int) (m : List UInt8) (hl0 : -9223372036854775808 ≤ l) (hl1 : l ≤ 9223372036854775807) (hp : p.length ≤ 1024) (hu : u.length ≤ 1024) (hm : m.length ≤ 1024) :
    0 < (txt p l u v m).length ∧ (txt p l u v m).length ≤ 3000 := by
  have hi := Lib.itoa_length_le l hl0 hl1
  have hv := lev_len v
  unfold txt loc
  split <;> (simp only [List.length_append, List.length_cons, List.length_nil]; omega)

/-- 'string(b)' of bytes that are owned -/
theorem str_of_own {B : Nat} {w : World} {v : Value} {bs : List UInt8} (h : Own B w v bs) (hne : 0 < bs.length) : (convert 22 9 v).run Ybad.prog w = .ok (.string ⟨bs.toArray⟩) w := by
  obtain ⟨g, cap, rfl, _, _, hc⟩ := own_shape h hne
  refine run_convert_bytes_back w 22 9 5 ⟨g, 0, none⟩ cap bs Ybad.underlying22 Ybad.underlying5 Ybad.underlying9 (fun j hj => ?_)
  rw [Addr.add_lit, Nat.zero_add]
  exact hc j hj

set_option maxHeartbeats 1000000 in
theorem string_any (p : ByteArray) (l : Int) (u : ByteArray) (v : Int) (m : ByteArray) (w : World) (hl0 : -9223372036854775808 ≤ l) (hl1 : l ≤ 9223372036854775807)
    (hps : p.size ≤ 1024) (hus : u.size ≤ 1024) (hms : m.size ≤ 1024) (htab : Lib.TabIs Ybad.prog w powName .u64 Lib.pow10Tab) :
    Calls Ybad.prog 8 #[.agg (fnd p l u v m)] w fun e w' => e = .returned (.string ⟨(txt p.data.toList l u.data.toList v m.data.toList).toArray⟩) ∧ Below w.heap.size w w' := by
  have hl := txt_len p.data.toList l u.data.toList v m.data.toList hl0 hl1 (len_of hps) (len_of hus) (len_of hms)
  have b0 : Below w.heap.size w (w.alloc (.cells (fnd p l u v m) 25)) := (Below.refl _ _).alloc (Nat.le_refl _) _
  have tab0 := Lib.tabBelow_of_tabIs (Lib.tabIs_alloc htab (.cells (fnd p l u v m) 25))
  clear htab
  have tab1 : Lib.TabBelow Ybad.prog (w.heap.size + 1) (w.alloc (.cells (fnd p l u v m) 25)) powName .u64 Lib.pow10Tab := by simpa using tab0
  clear tab0
  unfold fnd at *
  go_enter Ybad.func8, Ybad.ntmps8
  go_wp2_with (first
    | (go_at_call 6; refine (append_any (w.heap.size + 1) p l u v m (.slice none 0 0) [] _ hl0 hl1 hps hus hms (by simp) (own_nil _ _) (by simp) tab1).mono ?_; rintro e w1 ⟨v1, rfl, ho1, hb1⟩; rw [List.nil_append] at ho1; have hs := str_of_own ho1 hl.1))
  go_ret
  exact ⟨rfl, b0.trans (hb1.mono (by simp))⟩
end Go.Proofs.YbulkccfyDoor
