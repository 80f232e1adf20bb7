import Derived.Test.YbulkccfyRows
import Derived.WalkKit
import Derived.ProofKit
import Derived.OpenShut
import Derived.Below
import Derived.Deep.QuietTactic
import Derived.BigQuiet
import Derived.WalkSmall
namespace Go.Proofs.Ybulkccfy
open Go.ChangeShapes Go.WideShapes Go.ChangeAt Go.RowKit

/-- the first least place among the first k -/
def fi (U : Nat → Int) : Nat → Nat
  | 0 => 0
  | k + 1 => if U k < U (fi U k) then k else fi U k

theorem fi_lt (U : Nat → Int) (k n : Nat) (h : k < n) : fi U k < n := by
  induction k with
  | zero => exact h
  | succ k ih =>
    unfold fi
    split
    · omega
    · exact ih (by omega)

set_option maxHeartbeats 400000 in
theorem first_any (g n c : Nat) (U G : Nat → Int) (w : World) (hn : n ≤ 1024) (hg : g < w.heap.size)
    (hc : ∀ j, j < n → w.cell? ⟨g, j * 2, none⟩ = some (.int .i64 (U j)) ∧ w.cell? ⟨g, j * 2 + 1, none⟩ = some (.int .i64 (G j))) :
    Calls Yba.prog 4 #[.slice (some ⟨g, 0, none⟩) n c] w fun e w' => e = .returned (.int .i64 (fi U n : Nat)) ∧ Below w.heap.size w w' := by
  go_enter Yba.func4, Yba.ntmps4
  go_wp2
  go_loopw [3, 8] (fun f i wr => ∃ k : Nat, k ≤ n ∧ i = .int .i64 k ∧ f = .int .i64 (fi U k : Nat) ∧ Below w.heap.size w wr) (fun _ i _ => n - (intOf i).toNat)
  case atStart => exact ⟨0, Nat.zero_le _, rfl, rfl, Below.refl _ _⟩
  case round =>
    obtain ⟨k, hk, rfl, rfl, hb⟩ := hrel
    by_cases hlt : k < n
    · have hbs := hb.size
      have hgw : g < wr.heap.size := by omega
      have hm := fi_lt U k n hlt
      have ck : wr.cell? ⟨g, k * 2, none⟩ = some (.int .i64 (U k)) := (hb.cell (by exact hg)).trans (hc k hlt).1
      have ck1 : wr.cell? ⟨g, k * 2 + 1, none⟩ = some (.int .i64 (G k)) := (hb.cell (by exact hg)).trans (hc k hlt).2
      have cm : wr.cell? ⟨g, fi U k * 2, none⟩ = some (.int .i64 (U (fi U k))) := (hb.cell (by exact hg)).trans (hc _ hm).1
      have e : Hid (fi U (k + 1) = if U k < U (fi U k) then k else fi U k) := rfl
      generalize fi U k = m at *
      go_wp2
      go_quiet (fail)
      go_wp2
      all_goals
        go_roundw
        case rel => exact ⟨k + 1, by omega, by go_num, by rw [e.out]; first | rw [if_pos ‹_›] | rw [if_neg (by omega)], below_drewN (hb.alloc hb.size _) _⟩
        case measure => simp [intOf]; omega
    · obtain rfl : k = n := by omega
      go_wp2
      go_ret
      exact ⟨rfl, hb⟩

/-- a slice of ints that came in: where it has an element, it leads to cells that hold the numbers U -/
def RowAt (w : World) (a : Option Addr) (n : Nat) (U : Nat → Int) : Prop :=
  0 < n → ∃ b o, a = some ⟨b, o, none⟩ ∧ b < w.heap.size ∧ ∀ j, j < n → w.cell? ⟨b, o + j, none⟩ = some (.int .i64 (U j))

/-- the steps that have been laid: k of n -/
def Filled (B n k : Nat) (U G : Nat → Int) (wr : World) : Prop :=
  B < wr.heap.size ∧ (∀ j, j < n * 2 → ∃ v, wr.cell? ⟨B, j, none⟩ = some v) ∧ (∀ j, wr.frozen? ⟨B, j, none⟩ = false) ∧
  ∀ j, j < k → wr.cell? ⟨B, j * 2, none⟩ = some (.int .i64 (U j)) ∧ wr.cell? ⟨B, j * 2 + 1, none⟩ = some (.int .i64 (G j))

theorem Yba.info25 : (Yba.prog.info? 25).map (fun i => (i.zero, i.size, i.bytes)) = some (some (.agg #[.int .i64 0, .int .i64 0]), 2, 16) := by kernel_rfl

/-- the second field that is laid -/
def gz (n1 : Nat) (F : Nat → Int) (j : Nat) : Int := if j < n1 then F j else -1

theorem filled_make {w w1 : World} {n : Nat} (U G : Nat → Int) {z : Value}
    (hown : w1.ownsRow w.heap.size 25 2 (.slice (some ⟨w.heap.size, 0, none⟩) n n) n (madeCells z.cells (n * 2)).toList) (hgrow : w.grownBy w1 none) :
    Filled w.heap.size n 0 U G w1 ∧ Below w.heap.size w w1 := by
  refine ⟨⟨?_, ?_, hown.frozenAt, fun j h => absurd h (by omega)⟩, (Below.refl _ _).grown hgrow (Nat.le_refl _) (by simp)⟩
  · have := hown.lt w.heap.size rfl
    exact this.2
  · intro j hj
    have h1 := hown.1
    rw [hown.cellAt j hj]
    exact ⟨_, List.getElem?_eq_getElem (by omega)⟩

theorem filled_step {wr : World} {B n k : Nat} {U G : Nat → Int} (h : Filled B n k U G wr) (hk : k < n) :
    Filled B n (k + 1) U G ((wr.setCell ⟨B, k * 2, none⟩ (.int .i64 (U k))).setCell ⟨B, k * 2 + 1, none⟩ (.int .i64 (G k))) := by
  obtain ⟨h1, h2, h3, h4⟩ := h
  obtain ⟨v0, g0⟩ := h2 (k * 2) (by omega)
  obtain ⟨v1, g1⟩ := h2 (k * 2 + 1) (by omega)
  have e1 : (wr.setCell ⟨B, k * 2, none⟩ (.int .i64 (U k))).cell? ⟨B, k * 2 + 1, none⟩ = some v1 := by
    rw [World.cell?_setCell_other _ _ _ _ (by simp)]; exact g1
  have other : ∀ j, j ≠ k * 2 → j ≠ k * 2 + 1 → ((wr.setCell ⟨B, k * 2, none⟩ (.int .i64 (U k))).setCell ⟨B, k * 2 + 1, none⟩ (.int .i64 (G k))).cell? ⟨B, j, none⟩ = wr.cell? ⟨B, j, none⟩ := by
    intro j a b
    rw [World.cell?_setCell_other _ _ _ _ (by simp), World.cell?_setCell_other _ _ _ _ (by simp)]
  have at0 : ((wr.setCell ⟨B, k * 2, none⟩ (.int .i64 (U k))).setCell ⟨B, k * 2 + 1, none⟩ (.int .i64 (G k))).cell? ⟨B, k * 2, none⟩ = some (.int .i64 (U k)) := by
    rw [World.cell?_setCell_other _ _ _ _ (by simp)]; exact World.cell?_setCell_same _ _ _ g0
  have at1 : ((wr.setCell ⟨B, k * 2, none⟩ (.int .i64 (U k))).setCell ⟨B, k * 2 + 1, none⟩ (.int .i64 (G k))).cell? ⟨B, k * 2 + 1, none⟩ = some (.int .i64 (G k)) :=
    World.cell?_setCell_same _ _ _ e1
  refine ⟨by simpa using h1, fun j hj => ?_, fun j => by simpa using h3 j, fun j hj => ?_⟩
  · by_cases a : j = k * 2
    · subst a; exact ⟨_, at0⟩
    · by_cases b : j = k * 2 + 1
      · subst b; exact ⟨_, at1⟩
      · rw [other j a b]; exact h2 j hj
  · by_cases a : j = k
    · subst a; exact ⟨at0, at1⟩
    · have := h4 j (by omega)
      rw [other _ (by omega) (by omega), other _ (by omega) (by omega)]
      exact this

theorem fi_least (U : Nat → Int) (n : Nat) : (∀ j, j < n → U (fi U n) ≤ U j) ∧ ∀ j, j < fi U n → U (fi U n) < U j := by
  induction n with
  | zero => exact ⟨fun j h => absurd h (by omega), fun j h => absurd h (by simp [fi])⟩
  | succ n ih =>
    unfold fi
    split
    · rename_i h
      refine ⟨fun j hj => ?_, fun j hj => ?_⟩
      · by_cases e : j = n
        · subst e; exact Int.le_refl _
        · have := ih.1 j (by omega); omega
      · have := ih.1 j (by omega); omega
    · rename_i h
      refine ⟨fun j hj => ?_, ih.2⟩
      by_cases e : j = n
      · subst e; omega
      · exact ih.1 j (by omega)

set_option maxHeartbeats 1000000 in
theorem core (a0 : Option Addr) (n c0 : Nat) (U : Nat → Int) (a1 : Option Addr) (n1 c1 : Nat) (F : Nat → Int) (w : World) (hn : n ≤ 1024) (r0 : RowAt w a0 n U) (r1 : RowAt w a1 n1 F) :
    Calls Yba.prog 3 #[.slice a0 n c0, .slice a1 n1 c1] w fun e w' => e = .returned (.bool true) ∧ Below w.heap.size w w' := by
  obtain ⟨i0, hi, hz0, hz1, hz2⟩ := info_parts Yba.info25
  have hd : decide ((1024 : Int) < (n : Int)) = false := decide_eq_false (by omega)
  go_enter Yba.func3, Yba.ntmps3
  go_wp2_with (first | (at_make; refine wpList_make_full _ rfl _ _ 23 rfl w.heap.size 25 i0 _ 2 Yba.underlying23 hi hz0 hz1 _ _ _ _ n rfl rfl rfl rfl (by rw [hz2]; omega) (by unfold maxLen; omega) (Nat.le_refl _) ?_; intro w1 hown hgrow))
  have fm := filled_make U (gz n1 F) hown hgrow
  clear hown hgrow hi hz0 hz1 hz2 hd
  go_loopw [6] (fun i wr => ∃ k : Nat, k ≤ n ∧ i = .int .i64 k ∧ Filled w.heap.size n k U (gz n1 F) wr ∧ Below w.heap.size w wr) (fun i _ => n - (intOf i).toNat)
  case atStart => exact ⟨0, Nat.zero_le _, rfl, fm.1, fm.2⟩
  case round =>
    clear fm
    obtain ⟨k, hk, rfl, hf, hb⟩ := hrel
    have hbs := hb.size
    by_cases hlt : k < n
    · obtain ⟨b0, o0, rfl, hb0, hc0⟩ := r0 (by omega)
      have cu : wr.cell? ⟨b0, o0 + k, none⟩ = some (.int .i64 (U k)) := (hb.cell (by exact hb0)).trans (hc0 k hlt)
      obtain ⟨v0, g0⟩ := hf.2.1 (k * 2) (by omega)
      obtain ⟨v1, g1⟩ := hf.2.1 (k * 2 + 1) (by omega)
      have z0 := hf.2.2.1 (k * 2)
      have z1 := hf.2.2.1 (k * 2 + 1)
      by_cases h1 : k < n1
      · obtain ⟨b1, o1, rfl, hb1, hc1⟩ := r1 (by omega)
        have cf : wr.cell? ⟨b1, o1 + k, none⟩ = some (.int .i64 (F k)) := (hb.cell (by exact hb1)).trans (hc1 k h1)
        have hfs := filled_step hf hlt
        have eg : gz n1 F k = F k := if_pos h1
        rw [eg] at hfs
        have Hf : Hid (_) := hfs
        clear hfs hf eg
        go_wp2
        go_roundw
        case rel => exact ⟨k + 1, by omega, by go_num, Hf.out, (hb.setCell (Nat.le_refl _) _).setCell (Nat.le_refl _) _⟩
        case measure => simp [intOf]; omega
      · have hfs := filled_step hf hlt
        have eg : gz n1 F k = -1 := if_neg h1
        rw [eg] at hfs
        have Hf : Hid (_) := hfs
        clear hfs hf eg
        go_wp2
        go_roundw
        case rel => exact ⟨k + 1, by omega, by go_num, Hf.out, (hb.setCell (Nat.le_refl _) _).setCell (Nat.le_refl _) _⟩
        case measure => simp [intOf]; omega
    · obtain rfl : k = n := by omega
      have hfc := hf.2.2.2
      have HC : Hid (_) := hfc
      clear hfc
      go_wp2_with (first | (go_at_call 4; refine (first_any w.heap.size k k U (gz n1 F) wr hn hf.1 HC.out).mono ?_; rintro e w3 ⟨rfl, hb3⟩))
      have hbb : Below w.heap.size w w3 := hb.trans (hb3.mono hbs)
      have hB3 : w.heap.size < w3.heap.size := Nat.lt_of_lt_of_le hf.1 hb3.size
      have hc3 : ∀ j, j < k → w3.cell? ⟨w.heap.size, j * 2, none⟩ = some (.int .i64 (U j)) ∧ w3.cell? ⟨w.heap.size, j * 2 + 1, none⟩ = some (.int .i64 (gz n1 F j)) :=
        fun j hj => ⟨(hb3.cell (by exact hf.1)).trans (HC.out j hj).1, (hb3.cell (by exact hf.1)).trans (HC.out j hj).2⟩
      clear HC hf hb hb3 hbs
      have HC : Hid (_) := hc3
      clear hc3
      have hfl := fi_least U k
      have hlt2 : 0 < k → fi U k < k := fun h => by
        cases k with
        | zero => omega
        | succ q => unfold fi; split; exact Nat.lt_succ_self _; exact fi_lt U q (q + 1) (Nat.lt_succ_self _)
      have h0 : k = 0 → fi U k = 0 := by rintro rfl; rfl
      generalize fi U k = m at *
      have HL : Hid (_) := hfl
      have H0 : Hid (_) := h0
      clear hfl hlt h0
      go_loopw [9] (fun i wr => ∃ j : Nat, j ≤ k ∧ i = .int .i64 j ∧ ∃ q, wr = w3.drewN q) (fun i _ => k - (intOf i).toNat)
      case atStart => exact ⟨0, Nat.zero_le _, rfl, 0, rfl⟩
      case round =>
        obtain ⟨j, hj, rfl, q, rfl⟩ := hrel
        by_cases hjk : j < k
        · obtain ⟨b0, o0, rfl, hb0, hc0⟩ := r0 (by omega)
          have cu : w3.cell? ⟨b0, o0 + j, none⟩ = some (.int .i64 (U j)) := (hbb.cell (by exact hb0)).trans (hc0 j hjk)
          have c0 := (HC.out j hjk).1
          have c1 := (HC.out j hjk).2
          by_cases h1 : j < n1
          · obtain ⟨b1, o1, rfl, hb1, hc1⟩ := r1 (by omega)
            have cf : w3.cell? ⟨b1, o1 + j, none⟩ = some (.int .i64 (F j)) := (hbb.cell (by exact hb1)).trans (hc1 j h1)
            rw [show gz n1 F j = F j from if_pos h1] at c1
            go_wp2
            go_quiet (fail)
            go_wp2
            go_roundw
            case rel => exact ⟨j + 1, by omega, by go_num, _, rfl⟩
            case measure => simp [intOf]; omega
          · rw [show gz n1 F j = -1 from if_neg h1] at c1
            go_wp2
            go_quiet (fail)
            go_wp2
            go_roundw
            case rel => exact ⟨j + 1, by omega, by go_num, _, rfl⟩
            case measure => simp [intOf]; omega
        · obtain rfl : j = k := by omega
          by_cases hz : j = 0
          · have e0 := H0.out hz
            subst hz
            subst e0
            go_wp2
            go_ret
            exact ⟨rfl, below_drewN hbb _⟩
          · have hm := hlt2 (by omega)
            clear hlt2
            have hne : ((j : Int) == 0) = false := by simp; omega
            have hd1 : decide ((m : Int) < 0) = false := decide_eq_false (by omega)
            have hd2 : decide (j ≤ m) = false := decide_eq_false (by omega)
            go_wp2
            clear hne hd1 hd2
            obtain ⟨b0, o0, rfl, hb0, hc0⟩ := r0 (by omega)
            have cm : w3.cell? ⟨b0, o0 + m, none⟩ = some (.int .i64 (U m)) := (hbb.cell (by exact hb0)).trans (hc0 m hm)
            go_loopw [11] (fun i wr => ∃ t : Nat, t ≤ j ∧ i = .int .i64 t ∧ ∃ q, wr = w3.drewN q) (fun i _ => j - (intOf i).toNat)
            case atStart => exact ⟨0, Nat.zero_le _, rfl, q, rfl⟩
            case round =>
              obtain ⟨t, ht, rfl, q2, rfl⟩ := hrel
              by_cases htj : t < j
              · have ct : w3.cell? ⟨b0, o0 + t, none⟩ = some (.int .i64 (U t)) := (hbb.cell (by exact hb0)).trans (hc0 t htj)
                have hle := HL.out.1 t htj
                by_cases htm : t < m
                · have hlu := HL.out.2 t htm
                  have hd3 : decide ((t : Int) < (m : Int)) = true := decide_eq_true (by omega)
                  have hd4 : decide (m ≤ t) = false := decide_eq_false (by omega)
                  go_wp2
                  go_quiet (fail)
                  go_wp2
                  go_quiet (fail)
                  go_wp2
                  go_roundw
                  case rel => exact ⟨t + 1, by omega, by go_num, _, rfl⟩
                  case measure => simp [intOf]; omega
                · have hd3 : decide ((t : Int) < (m : Int)) = false := decide_eq_false (by omega)
                  have hd4 : decide (m ≤ t) = true := decide_eq_true (by omega)
                  go_wp2
                  go_quiet (fail)
                  go_wp2
                  go_quiet (fail)
                  go_wp2
                  go_roundw
                  case rel => exact ⟨t + 1, by omega, by go_num, _, rfl⟩
                  case measure => simp [intOf]; omega
              · obtain rfl : t = j := by omega
                go_wp2
                go_ret
                exact ⟨rfl, below_drewN hbb _⟩
end Go.Proofs.Ybulkccfy
