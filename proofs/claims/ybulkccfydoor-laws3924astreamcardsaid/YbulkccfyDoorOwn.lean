/-
  Bytes that a call owns: the laws on 'append' at this seat's type numbers (22: []byte, 5: byte, 9: string, 25: Finding), and what a store keeps.
-/
import Derived.Test.YbulkccfyDoorRows
import Derived.WalkKit
import Derived.ProofKit
import Derived.Below
import Derived.WalkSmall
import Derived.Lib.AppendStr
import Derived.Lib.AppendIntMem
import Derived.Lib.OthersKept
import Derived.Lib.ItoaLen
import Derived.Laws.BytesString
namespace Go.Proofs.YbulkccfyDoor
open Go.ChangeShapes Go.WideShapes Go.ChangeAt Go.RowKit

theorem Ybad.info5 : (Ybad.prog.info? 5).map (fun i => (i.zero, i.size, i.bytes)) = some (some (.int .u8 0), 1, 1) := by kernel_rfl

/-- the slice value v owns the bytes bs, in a row of the call's own (from block B on) -/
def Own (B : Nat) (w : World) (v : Value) (bs : List UInt8) : Prop := w.ownsRow B 5 1 v bs.length (Lib.byteCells bs)

theorem own_nil (B : Nat) (w : World) : Own B w (.slice none 0 0) [] := World.ownsRow_nil _ _ _ _

/-- a slice that is not empty has a row -/
theorem own_shape {B : Nat} {w : World} {v : Value} {bs : List UInt8} (h : Own B w v bs) (hne : 0 < bs.length) :
    ∃ g cap, v = .slice (some ⟨g, 0, none⟩) bs.length cap ∧ B ≤ g ∧ g < w.heap.size ∧ ∀ j (hj : j < bs.length), w.cell? ⟨g, j, none⟩ = some (.int .u8 (bs[j].toNat : Int)) := by
  rcases h.2 with ⟨_, h0⟩ | ⟨g, cap, cur, rfl, hb, hg, hnc, hm, hs, ht⟩
  · omega
  · refine ⟨g, cap, rfl, hb, (Array.getElem?_eq_some_iff.1 hg).1, fun j hj => ?_⟩
    have := World.ownsRow.cellAt h j (by omega)
    rw [this]
    simp [Lib.byteCells, hj]

theorem own_alloc {B : Nat} {w : World} {v : Value} {bs : List UInt8} (h : Own B w v bs) (o : Obj) : Own B (w.alloc o) v bs := World.ownsRow.alloc h o

theorem own_lit (w : World) (bs : List UInt8) (hl : bs.length ≤ 1000) : Own w.heap.size (w.alloc (.cells (Lib.byteCells bs).toArray 5)) (.slice (some ⟨w.heap.size, 0, none⟩) bs.length bs.length) bs := by
  have := World.ownsRow_lit (base := w.heap.size) (e := 5) (size := 1) w (Lib.byteCells bs).toArray bs.length (Nat.le_refl _) (by unfold maxLen; omega) (by simp [Lib.byteCells])
  simpa [Own] using this

/-- what is owned below a mark stays owned where nothing below the mark turns -/
theorem own_below {B C : Nat} {w w' : World} {v : Value} {bs : List UInt8} (h : Own B w v bs) (hb : Below C w w') (hC : w.heap.size ≤ C) : Own B w' v bs := by
  obtain ⟨h1, h2⟩ := h
  refine ⟨h1, ?_⟩
  rcases h2 with h2 | ⟨g, cap, cur, hv, hB, hg, r⟩
  · exact .inl h2
  · have hlt : g < w.heap.size := (Array.getElem?_eq_some_iff.1 hg).1
    exact .inr ⟨g, cap, cur, hv, hB, by rw [hb.block g (by omega)]; exact hg, r⟩

/-- what is owned from B on is owned from every lower number on -/
theorem own_base {B C : Nat} {w : World} {v : Value} {bs : List UInt8} (h : Own B w v bs) (hC : C ≤ B) : Own C w v bs := by
  obtain ⟨h1, h2⟩ := h
  refine ⟨h1, ?_⟩
  rcases h2 with h2 | ⟨g, cap, cur, hv, hB, r⟩
  · exact .inl h2
  · exact .inr ⟨g, cap, cur, hv, by omega, r⟩

section
variable {w : World} {ops : Array Oper} {rest : List Oper} {o : Oper} {a : Act} {Q : Exit → Act → World → Prop}

/-- 'append(b, s...)', s a string -/
theorem app_str (B : Nat) (v : Value) (bs : List UInt8) (s : ByteArray) (sl x : Operand) (hgd : o.guard = none)
    (ho : o.op = .call { callee := .builtin .append, args := #[sl, x], argTypes := #[22, 9] })
    (hs : a.eval sl = v) (hown : Own B w v bs) (hx : a.eval x = .string s) (hl : bs.length + s.size ≤ 100000) (hB : B ≤ w.heap.size)
    (h : ∀ v' w', Own B w' v' (bs ++ s.data.toList) → w.grownBy w' v.ownBlock → wpList Ybad.prog ops Q rest (a.put o.dst v') w') : wpList Ybad.prog ops Q (o :: rest) a w := by
  obtain ⟨i0, hi, hz0, hz1, hz2⟩ := info_parts Ybad.info5
  refine Lib.wpList_append_own_string w hgd sl x 22 9 ho B 5 i0 Ybad.underlying22 Ybad.underlying9 hi hz0 hz1 hz2 v bs.length _ hs hown s hx (by unfold maxLen; omega) (by omega) hB ?_
  intro v' w' h1 h2 _
  refine h v' w' ?_ h2
  have e : (bs ++ s.data.toList).length = bs.length + s.size := by simp
  unfold Own
  rw [e, Lib.byteCells_append]
  exact h1

/-- 'append(b, cs...)', cs a slice whose cells are known -/
theorem app_row (B : Nat) (v : Value) (bs cs : List UInt8) (ad : Addr) (c : Nat) (sl x : Operand) (hgd : o.guard = none)
    (ho : o.op = .call { callee := .builtin .append, args := #[sl, x], argTypes := #[22, 22] })
    (hs : a.eval sl = v) (hown : Own B w v bs) (hx : a.eval x = .slice (some ad) cs.length c) (hc : ∀ j (hj : j < cs.length), w.cell? (ad.add j) = some (.int .u8 (cs[j].toNat : Int)))
    (hl : bs.length + cs.length ≤ 100000) (hB : B ≤ w.heap.size)
    (h : ∀ v' w', Own B w' v' (bs ++ cs) → w.grownBy w' v.ownBlock → wpList Ybad.prog ops Q rest (a.put o.dst v') w') : wpList Ybad.prog ops Q (o :: rest) a w := by
  obtain ⟨i0, hi, hz0, hz1, hz2⟩ := info_parts Ybad.info5
  refine wpList_append_own w hgd sl x 22 ho B 5 i0 (.int .u8 0) 1 1 Ybad.underlying22 hi hz0 hz1 hz2 rfl (by decide) v bs.length _ hs hown ad cs.length c (Lib.byteCells cs) hx (by simp [Lib.byteCells]) ?_ ?_ (by unfold maxLen; omega) (by omega) hB ?_
  · intro j u hj
    have hlt : j < cs.length := by have := (List.getElem?_eq_some_iff.1 hj).1; simpa [Lib.byteCells] using this
    rw [hc j hlt, ← hj]
    simp [Lib.byteCells, hlt]
  · intro u hu
    simp only [Lib.byteCells, List.mem_map] at hu
    obtain ⟨_, _, rfl⟩ := hu
    rfl
  · intro v' w' h1 h2 _
    refine h v' w' ?_ h2
    unfold Own
    rw [List.length_append, Lib.byteCells_append]
    exact h1
end

end Go.Proofs.YbulkccfyDoor
