/-
  LawS3929CBuilt: the walk.
-/
import Derived.Test.YbulkcciqFmtWalk2
namespace Go.Proofs.YbulkcciqFmt
open Go.ChangeShapes Go.WideShapes Go.ChangeAt Go.RowKit Go.Extern.Stop Go.Stop Go.Extern

/-- the two constants, as bytes -/
def alS : ByteArray := ⟨#[97, 98, 99, 100, 101, 102, 103, 104, 105, 106, 107, 108, 109, 110, 111, 112, 113, 114, 115, 116, 117, 118, 119, 120, 121, 122, 65, 66, 67, 68, 69, 70, 71, 72, 73, 74, 75, 76, 77, 78, 79, 80, 81, 82, 83, 84, 85, 86, 87, 88, 89, 90, 48, 49, 50, 51, 52, 53, 54, 55, 56, 57, 45]⟩
def baS : ByteArray := ⟨#[96, 123, 64, 91, 47, 58, 46, 44, 95, 32, 0, 127, 128, 255]⟩
def al (x : Int) : Int := ((alS.data.toList.getD x.toNat 0).toNat : Int)
def ba (x : Int) : Int := ((baS.data.toList.getD x.toNat 0).toNat : Int)
theorem al_ok_fin : ∀ i : Fin 63, okB (al (i.val : Int)) = true := by decide +kernel
theorem ba_bad_fin : ∀ i : Fin 14, okB (ba (i.val : Int)) = false := by decide +kernel
theorem al_ok (x : Int) (h0 : 0 ≤ x) (h1 : x < 63) : okB (al x) = true := by
  obtain ⟨i, rfl⟩ : ∃ i : Nat, x = (i : Int) := ⟨x.toNat, by omega⟩
  exact al_ok_fin ⟨i, by omega⟩
theorem ba_bad (x : Int) (h0 : 0 ≤ x) (h1 : x < 14) : okB (ba x) = false := by
  obtain ⟨i, rfl⟩ : ∃ i : Nat, x = (i : Int) := ⟨x.toNat, by omega⟩
  exact ba_bad_fin ⟨i, by omega⟩

theorem run_idx (s : ByteArray) (x : Int) (h0 : 0 ≤ x) (h1 : x < s.size) (w : World) :
    (Instr.index 9 (.string s) (.int .i64 x)).run Ybaf.prog w = .ok (.int .u8 ((s.data.toList.getD x.toNat 0).toNat : Int)) w := by
  obtain ⟨i, rfl⟩ : ∃ i : Nat, x = (i : Int) := ⟨x.toNat, by omega⟩
  have hi : i < s.size := by omega
  have e : s.data.toList.getD i 0 = s[i] := by simp [List.getD, hi]; rfl
  rw [Int.toNat_natCast, e]
  simp [Instr.index, asIntOf, run_underlying Ybaf.underlying9, hi]
theorem run_al (x : Int) (h0 : 0 ≤ x) (h1 : x < 63) (w : World) : (Instr.index 9 (.string ⟨#[97, 98, 99, 100, 101, 102, 103, 104, 105, 106, 107, 108, 109, 110, 111, 112, 113, 114, 115, 116, 117, 118, 119, 120, 121, 122, 65, 66, 67, 68, 69, 70, 71, 72, 73, 74, 75, 76, 77, 78, 79, 80, 81, 82, 83, 84, 85, 86, 87, 88, 89, 90, 48, 49, 50, 51, 52, 53, 54, 55, 56, 57, 45]⟩) (.int .i64 x)).run Ybaf.prog w = .ok (.int .u8 (al x)) w := run_idx alS x h0 h1 w
theorem run_ba (x : Int) (h0 : 0 ≤ x) (h1 : x < 14) (w : World) : (Instr.index 9 (.string ⟨#[96, 123, 64, 91, 47, 58, 46, 44, 95, 32, 0, 127, 128, 255]⟩) (.int .i64 x)).run Ybaf.prog w = .ok (.int .u8 (ba x)) w := run_idx baS x h0 h1 w

theorem Ybaf.info5' : (Ybaf.prog.info? 5).map (fun i => (i.zero, i.size, i.bytes)) = some (some (.int .u8 0), 1, 1) := by kernel_rfl

/-- the first k of n bytes are laid -/
def Laid (B n k : Nat) (Z : Nat → Int) (wr : World) : Prop :=
  B < wr.heap.size ∧ (∀ j, j < n → ∃ v, wr.cell? ⟨B, j, none⟩ = some v) ∧ (∀ j, wr.frozen? ⟨B, j, none⟩ = false) ∧ ∀ j, j < k → wr.cell? ⟨B, j, none⟩ = some (.int .u8 (Z j))
theorem laid_make {w w1 : World} {n : Nat} (Z : Nat → Int) {z : Value}
    (hown : w1.ownsRow w.heap.size 5 1 (.slice (some ⟨w.heap.size, 0, none⟩) n n) n (madeCells z.cells (n * 1)).toList) (hgrow : w.grownBy w1 none) :
    Laid w.heap.size n 0 Z w1 ∧ Below w.heap.size w w1 := by
  refine ⟨⟨(hown.lt w.heap.size rfl).2, ?_, hown.frozenAt, fun j h => absurd h (by omega)⟩, (Below.refl _ _).grown hgrow (Nat.le_refl _) (by simp)⟩
  intro j hj
  have h1 := hown.1
  rw [hown.cellAt j (by omega)]
  exact ⟨_, List.getElem?_eq_getElem (by omega)⟩
theorem laid_step {wr : World} {B n k : Nat} {Z : Nat → Int} (h : Laid B n k Z wr) (hk : k < n) : Laid B n (k + 1) Z (wr.setCell ⟨B, k, none⟩ (.int .u8 (Z k))) := by
  obtain ⟨h1, h2, h3, h4⟩ := h
  obtain ⟨v0, g0⟩ := h2 k hk
  have at0 := World.cell?_setCell_same wr ⟨B, k, none⟩ (.int .u8 (Z k)) g0
  have other : ∀ j, j ≠ k → (wr.setCell ⟨B, k, none⟩ (.int .u8 (Z k))).cell? ⟨B, j, none⟩ = wr.cell? ⟨B, j, none⟩ := fun j hj =>
    World.cell?_setCell_other _ _ _ _ (by intro e; exact hj (by simpa using (congrArg Addr.off e).symm))
  refine ⟨by simpa using h1, fun j hj => ?_, fun j => by simpa using h3 j, fun j hj => ?_⟩
  · by_cases e : j = k
    · subst e; exact ⟨_, at0⟩
    · rw [other j e]; exact h2 j hj
  · by_cases e : j = k
    · subst e; exact at0
    · rw [other j e]; exact h4 j (by omega)
theorem laid_row {wr : World} {B n : Nat} {Z : Nat → Int} (h : Laid B n n Z wr) : RowB wr (some ⟨B, 0, none⟩) n Z :=
  fun _ => ⟨B, 0, rfl, h.1, fun j hj => by rw [Nat.zero_add]; exact h.2.2.2 j hj⟩
theorem laid_row_set {wr : World} {B n k : Nat} {Z : Nat → Int} (h : Laid B n n Z wr) (hk : k < n) (v : Int) : RowB (wr.setCell ⟨B, k, none⟩ (.int .u8 v)) (some ⟨B, 0, none⟩) n (fun j => if j = k then v else Z j) := by
  intro _
  refine ⟨B, 0, rfl, by simpa using h.1, fun j hj => ?_⟩
  rw [Nat.zero_add]
  show _ = some (Value.int .u8 (if j = k then v else Z j))
  by_cases e : j = k
  · subst e
    rw [if_pos rfl]
    exact World.cell?_setCell_same wr ⟨B, j, none⟩ _ (h.2.2.2 j hj)
  · rw [if_neg e, World.cell?_setCell_other _ _ _ _ (by intro e2; exact e (by simpa using (congrArg Addr.off e2).symm))]
    exact h.2.2.2 j hj

set_option maxHeartbeats 2000000 in
theorem built_core (F : Interp) (a : Option Addr) (n c : Nat) (Z : Nat → Int) (t b : Int) (w : World) (hF : F.answers w.tape) (hn : n ≤ 4096) (r : RowB w a n Z) (hz : ∀ j, j < n → 0 ≤ Z j ∧ Z j ≤ 255)
    (ht0 : 0 ≤ t) (ht1 : t ≤ 65535) (hb0 : 0 ≤ b) (hb1 : b ≤ 255) :
    Calls Ybaf.prog 4 #[.slice a n c, .int .u16 t, .int .u8 b] w fun e w' => e = .returned (.bool true) ∧ Below w.heap.size w w' := by
  obtain ⟨i0, hi, hz0, hz1, hz2⟩ := info_parts Ybaf.info5'
  have hd : decide ((4096 : Int) < (n : Int)) = false := decide_eq_false (by omega)
  have HZ : Hid (∀ j, j < n → 0 ≤ Z j ∧ Z j ≤ 255) := hz
  have HF : Hid (F.answers w.tape) := hF
  clear hz hF
  go_enter Ybaf.func4, Ybaf.ntmps4
  go_wp2_with (first
    | (at_make; refine wpList_make_full _ rfl _ _ 22 rfl w.heap.size 5 i0 _ 1 Ybaf.underlying22 hi hz0 hz1 _ _ _ _ n rfl rfl rfl rfl (by rw [hz2]; omega) (by unfold maxLen; omega) (Nat.le_refl _) ?_; intro w1 hown hgrow))
  have fm := laid_make (fun j => al (Z j % 63)) hown hgrow
  clear hd hown hgrow hi hz0 hz1 hz2
  go_loopw [8] (fun i wr => ∃ k : Nat, k ≤ n ∧ i = .int .i64 k ∧ Laid w.heap.size n k (fun j => al (Z j % 63)) wr ∧ Below w.heap.size w wr) (fun i _ => n - (intOf i).toNat)
  case atStart => exact ⟨0, Nat.zero_le _, rfl, fm.1, fm.2⟩
  case round =>
    clear fm
    obtain ⟨k, hk, rfl, hf, hb⟩ := hrel
    have hbs := hb.size
    by_cases hlt : k < n
    · obtain ⟨b0, o0, rfl, hb0', hc0⟩ := r (by omega)
      have cu : wr.cell? ⟨b0, o0 + k, none⟩ = some (.int .u8 (Z k)) := (hb.cell (by exact hb0')).trans (hc0 k hlt)
      obtain ⟨v0, g0⟩ := hf.2.1 k hlt
      have z0 := hf.2.2.1 k
      have Hf : Hid (Laid w.heap.size n (k + 1) (fun j => al (Z j % 63)) (wr.setCell ⟨w.heap.size, k, none⟩ (.int .u8 (al (Z k % 63))))) := laid_step hf hlt
      obtain ⟨hz3, hz4⟩ := HZ.out k hlt
      have hix := run_al (Z k % 63) (by omega) (by omega)
      clear hf
      go_wp2
      go_roundw
      case rel => exact ⟨k + 1, by omega, by go_num, Hf.out, hb.setCell (Nat.le_refl _) _⟩
      case measure => simp [intOf]; omega
    · have HL : Hid (Laid w.heap.size n n (fun j => al (Z j % 63)) wr) := by have h2 := hf; rw [show k = n by omega] at h2; exact h2
      have HFr : Hid (F.answers wr.tape) := by have h2 := HF.out; rw [← hb.tape] at h2; exact h2
      clear hf
      by_cases hn0 : n = 0
      · subst hn0
        go_wp2_with fail
        refine (chk_empty _ _ wr).mono ?_
        rintro e w3 ⟨⟨p, rfl⟩, hb3⟩
        go_wp2
        go_ret
        exact ⟨rfl, hb.trans (hb3.mono hb.size)⟩
      · have hne : ((n : Int) == 0) = false := by simp; omega
        go_wp2_with fail
        refine (chk_ok _ n n _ wr hn (by omega) (laid_row HL.out) (fun j hj => al_ok _ (by have := HZ.out j hj; omega) (by have := HZ.out j hj; omega))).mono ?_
        rintro e w3 ⟨rfl, hw3⟩
        subst hw3
        obtain ⟨kk, hkk⟩ : ∃ kk : Nat, t % (n : Int) = (kk : Int) := ⟨(t % (n : Int)).toNat, by have := Int.emod_nonneg t (show (n : Int) ≠ 0 by omega); omega⟩
        have hkn : kk < n := by have := Int.emod_lt_of_pos t (show (0 : Int) < n by omega); omega
        have hix := run_ba (b % 14) (by omega) (by omega)
        obtain ⟨v0, g0⟩ := HL.out.2.1 kk hkn
        have z0 := HL.out.2.2.1 kk
        have HR : Hid (RowB (w3.setCell ⟨w.heap.size, kk, none⟩ (.int .u8 (ba (b % 14)))) (some ⟨w.heap.size, 0, none⟩) n (fun j => if j = kk then ba (b % 14) else al (Z j % 63))) := laid_row_set HL.out hkn _
        have HQ : Hid (okB (ba (b % 14)) = false) := ba_bad _ (by omega) (by omega)
        go_wp2_with fail
        refine (chk_refuse F _ n n _ _ (by exact HFr.out) hn HR.out (.inr ⟨kk, hkn, ?_⟩)).mono ?_
        · show okB (if kk = kk then ba (b % 14) else al (Z kk % 63)) = false
          rw [if_pos rfl]
          exact HQ.out
        rintro e w4 ⟨⟨p, rfl⟩, hb4⟩
        go_wp2
        go_ret
        exact ⟨rfl, (hb.setCell (Nat.le_refl _) _).trans (hb4.mono (by simp; omega))⟩
end Go.Proofs.YbulkcciqFmt
