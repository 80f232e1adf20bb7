/-
  zzs3929cok; checkDNNLabel's two answers.
-/
import Derived.Test.YbulkcciqFmtWalk1
namespace Go.Proofs.YbulkcciqFmt
open Go.ChangeShapes Go.WideShapes Go.ChangeAt Go.RowKit Go.Extern.Stop Go.Stop Go.Extern

theorem first_bad (Z : Nat → Int) (n : Nat) : (∃ i, i < n ∧ okB (Z i) = false ∧ ∀ j, j < i → okB (Z j) = true) ∨ ∀ j, j < n → okB (Z j) = true := by
  induction n with
  | zero => exact .inr fun j h => absurd h (by omega)
  | succ n ih =>
    rcases ih with ⟨k, hk, h1, h2⟩ | h
    · exact .inl ⟨k, by omega, h1, h2⟩
    · cases e : okB (Z n)
      · exact .inl ⟨n, by omega, e, h⟩
      · refine .inr fun j hj => ?_
        by_cases e2 : j = n
        · subst e2; exact e
        · exact h j (by omega)

/-- it refuses: the label is empty or holds a bad octet -/
theorem chk_refuse (F : Interp) (a : Option Addr) (n c : Nat) (Z : Nat → Int) (w : World) (hF : F.answers w.tape) (hn : n ≤ 4096) (r : RowB w a n Z) (h : n = 0 ∨ ∃ i, i < n ∧ okB (Z i) = false) :
    Calls Ybaf.prog 6 #[.slice a n c] w fun e w' => (∃ p, e = .returned (.iface 32 (.pointer (some p)))) ∧ Below w.heap.size w w' := by
  by_cases h0 : n = 0
  · subst h0; exact chk_empty a c w
  · rcases first_bad Z n with ⟨i, hi, h1, h2⟩ | hall
    · exact chk_bad F a n c Z i w hF hn hi r h2 h1
    · rcases h with h | ⟨i, hi, hb⟩
      · exact absurd h h0
      · rw [hall i hi] at hb; cases hb

theorem ok1 {c : Int} (h0 : 0 ≤ c) (h1 : c ≤ 255) (h : (c - 48) % 256 < 10) : okB c = true := by
  have : 48 ≤ c ∧ c ≤ 57 := by omega
  simp [okB, this]
theorem ok2 {c : Int} (h1 : c ≤ 255) (h : 128 ≤ c) : okB c = false := by
  simp [okB]; omega
theorem ok3_fin : ∀ i : Fin 128, (decide ((10 : Int) ≤ ((i.val : Int) - 48) % 256) && (((i.val : Int) != 45))) = true → decide ((bits BinOp.or IntKind.u8 (i.val : Int) 32 - 97) % 256 < 26) = okB (i.val : Int) := by decide +kernel
theorem ok3 {c : Int} (h0 : 0 ≤ c) (h1 : c < 128) (h : 10 ≤ (c - 48) % 256) (hne : ¬ c = 45) : decide ((bits BinOp.or IntKind.u8 c 32 - 97) % 256 < 26) = okB c := by
  obtain ⟨i, rfl⟩ : ∃ i : Nat, c = (i : Int) := ⟨c.toNat, by omega⟩
  exact ok3_fin ⟨i, by omega⟩ (by simp only [Bool.and_eq_true, decide_eq_true_eq, bne_iff_ne]; exact ⟨h, hne⟩)

theorem ok_any (c : Int) (w : World) (h0 : 0 ≤ c) (h1 : c ≤ 255) : Calls Ybaf.prog 5 #[.int .u8 c] w fun e w' => e = .returned (.bool (okB c)) ∧ w' = w := by
  by_cases h45 : c = 45
  · subst h45
    go_enter Ybaf.func5, Ybaf.ntmps5
    go_wp2
    go_ret
    exact ⟨rfl, rfl⟩
  · have hb : (c == 45) = false := beq_eq_false_iff_ne.2 h45
    go_enter Ybaf.func5, Ybaf.ntmps5
    go_wp2
    · go_ret
      exact ⟨by rw [ok1 h0 h1 ‹_›]; rfl, rfl⟩
    · go_ret
      exact ⟨by rw [ok2 h1 ‹_›]; rfl, rfl⟩
    · go_ret
      refine ⟨?_, rfl⟩
      rw [← ok3 h0 ‹_› ‹_› h45]
      rfl
end Go.Proofs.YbulkcciqFmt
