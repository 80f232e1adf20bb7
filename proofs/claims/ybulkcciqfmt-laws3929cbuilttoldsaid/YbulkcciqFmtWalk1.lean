/-
  checkDNNLabel and what it calls: errors.New, fmt.Errorf (its text by whatever stands in fmt's place: F). What counts here is whether an error came back at all.
-/
import Derived.Test.YbulkcciqFmtRows
import Derived.WalkKit
import Derived.ProofKit
import Derived.Below
import Derived.WalkSmall
import Derived.WalkSpells
import Derived.Stop.CallBack
import Derived.Stop.IfaceNil
import Derived.Laws.CopyOwn
import Derived.Deep.QuietTactic
import Derived.BigQuiet
namespace Go.Proofs.YbulkcciqFmt
open Go.ChangeShapes Go.WideShapes Go.ChangeAt Go.RowKit Go.Extern.Stop Go.Stop Go.Extern

theorem Ybaf.call9 (args : Array Value) (w : World) : (callFunc 9 args).run Ybaf.prog w = ((FmtStop.errorf #[9, 35] #[25] args).run Ybaf.prog w).andThen fun v w' => .ok (.value v) w' :=
  run_callFunc_extern Ybaf.func9 (by kernel_rfl) (by kernel_rfl) (by kernel_rfl) (by kernel_rfl) args w
theorem Ybaf.guard (name : String) (w : World) : (FmtStop.guard name).run Ybaf.prog w = .ok () w := by kernel_rfl
theorem Ybaf.fmt0 : FmtStop.printed? ⟨#[111, 99, 116, 101, 116, 32, 37, 100, 44, 32, 48, 120, 37, 48, 50, 120, 44, 32, 105, 115, 32, 110, 111, 116, 32, 97, 32, 108, 101, 116, 116, 101, 114, 44, 32, 100, 105, 103, 105, 116, 32, 111, 114, 32, 104, 121, 112, 104, 101, 110]⟩ 2 = some [(0, 100, false), (1, 120, false)] := by kernel_rfl
theorem Ybaf.fmt0r (w : World) : (FmtDoors.printed ⟨#[111, 99, 116, 101, 116, 32, 37, 100, 44, 32, 48, 120, 37, 48, 50, 120, 44, 32, 105, 115, 32, 110, 111, 116, 32, 97, 32, 108, 101, 116, 116, 101, 114, 44, 32, 100, 105, 103, 105, 116, 32, 111, 114, 32, 104, 121, 112, 104, 101, 110]⟩ 2).run Ybaf.prog w = .ok [(0, 100, false), (1, 120, false)] w := by kernel_rfl
def Ybaf.shape3 : List UInt8 := [5, 3, 0, 0, 0, 0, 0, 0, 0, 105, 110, 116]
def Ybaf.shape5 : List UInt8 := [6, 5, 0, 0, 0, 0, 0, 0, 0, 117, 105, 110, 116, 56]
theorem Ybaf.op3_100w (name : String) (x : Int) (w : World) : (FmtStop.operand name true 100 false (.iface 3 (.int .i64 x))).run Ybaf.prog w = .ok (Ybaf.shape3, Go.Extern.Stop.digits 8 (x % 2 ^ 64).toNat) w := by kernel_rfl
theorem Ybaf.op5_120w (name : String) (x : Int) (w : World) : (FmtStop.operand name true 120 false (.iface 5 (.int .u8 x))).run Ybaf.prog w = .ok (Ybaf.shape5, Go.Extern.Stop.digits 8 (x % 2 ^ 64).toNat) w := by kernel_rfl
theorem Ybaf.ptr32 (w : World) : (FmtStop.ptrTo "errors.errorString").run Ybaf.prog w = .ok 32 w := by kernel_rfl
theorem Ybaf.elem32 (w : World) : (elemOf 32).run Ybaf.prog w = .ok 34 w := by kernel_rfl
theorem Ybaf.isError32' (w : World) : (FmtDoors.textMethod 32 "Error").run Ybaf.prog w = .ok true w := by kernel_rfl

set_option maxHeartbeats 800000 in
theorem errorf_any (F : Interp) (i c : Int) (blk : Nat) (w : World) (hF : F.answers w.tape)
    (hc0 : w.cell? ⟨blk, 0, none⟩ = some (.iface 3 (.int .i64 i))) (hc1 : w.cell? ⟨blk, 1, none⟩ = some (.iface 5 (.int .u8 c))) :
    Calls Ybaf.prog 8 #[.string ⟨#[111, 99, 116, 101, 116, 32, 37, 100, 44, 32, 48, 120, 37, 48, 50, 120, 44, 32, 105, 115, 32, 110, 111, 116, 32, 97, 32, 108, 101, 116, 116, 101, 114, 44, 32, 100, 105, 103, 105, 116, 32, 111, 114, 32, 104, 121, 112, 104, 101, 110]⟩, .slice (some ⟨blk, 0, none⟩) 2 2] w fun e w' =>
      (∃ p, e = .returned (.iface 32 (.pointer (some p)))) ∧ Below w.heap.size w w' := by
  have hF' := answers_open hF
  have k1 := Ybaf.call9
  have k2 := Ybaf.guard
  have k3 := Ybaf.fmt0
  have k4 := Ybaf.fmt0r
  have k5 := Ybaf.op3_100w
  have k6 := Ybaf.op5_120w
  have k7 := Ybaf.ptr32
  have k8 := Ybaf.elem32
  have k9 := Ybaf.isError32'
  go_enter Ybaf.func8, Ybaf.ntmps8
  go_wp2
  go_ret
  exact ⟨⟨_, rfl⟩, ((Below.refl _ _).alloc (Nat.le_refl _) _).drew⟩

theorem new_any (s : ByteArray) (w : World) : Calls Ybaf.prog 7 #[.string s] w fun e w' => (∃ p, e = .returned (.iface 32 (.pointer (some p)))) ∧ Below w.heap.size w w' := by
  go_enter Ybaf.func7, Ybaf.ntmps7
  go_wp2
  go_ret
  exact ⟨⟨_, rfl⟩, (Below.refl _ _).alloc (Nat.le_refl _) _⟩

/-- a slice of bytes: where it has an element, it leads to cells that hold Z -/
def RowB (w : World) (a : Option Addr) (n : Nat) (Z : Nat → Int) : Prop :=
  0 < n → ∃ b o, a = some ⟨b, o, none⟩ ∧ b < w.heap.size ∧ ∀ j, j < n → w.cell? ⟨b, o + j, none⟩ = some (.int .u8 (Z j))
theorem RowB.below {w w' : World} {a : Option Addr} {n : Nat} {Z : Nat → Int} (h : RowB w a n Z) (hb : Below w.heap.size w w') : RowB w' a n Z := by
  intro hp
  obtain ⟨b, o, e, hl, hc⟩ := h hp
  exact ⟨b, o, e, Nat.lt_of_lt_of_le hl hb.size, fun j hj => (hb.cell (by exact hl)).trans (hc j hj)⟩
theorem RowB.drewN {w : World} {a : Option Addr} {n : Nat} {Z : Nat → Int} (h : RowB w a n Z) (q : Nat) : RowB (w.drewN q) a n Z := h

/-- an ASCII letter, a digit or a hyphen -/
def okB (c : Int) : Bool := (decide (97 ≤ c) && decide (c ≤ 122)) || (decide (65 ≤ c) && decide (c ≤ 90)) || (decide (48 ≤ c) && decide (c ≤ 57)) || decide (c = 45)
theorem okB_cases {c : Int} (h : okB c = true) : (97 ≤ c ∧ c ≤ 122) ∨ (65 ≤ c ∧ c ≤ 90) ∨ (48 ≤ c ∧ c ≤ 57) ∨ c = 45 := by
  simp [okB] at h; omega
theorem okB_not {c : Int} (h : okB c = false) : c < 45 ∨ (45 < c ∧ c < 48) ∨ (57 < c ∧ c < 65) ∨ (90 < c ∧ c < 97) ∨ 122 < c := by
  simp [okB] at h; omega

theorem chk_empty (a : Option Addr) (c : Nat) (w : World) :
    Calls Ybaf.prog 6 #[.slice a 0 c] w fun e w' => (∃ p, e = .returned (.iface 32 (.pointer (some p)))) ∧ Below w.heap.size w w' := by
  go_enter Ybaf.func6, Ybaf.ntmps6
  go_wp2_with (first | (go_at_call 7; refine (new_any _ _).mono ?_; rintro e w1 ⟨⟨p, rfl⟩, hb1⟩))
  go_ret
  exact ⟨⟨_, rfl⟩, hb1⟩

set_option maxHeartbeats 1000000 in
theorem chk_ok (a : Option Addr) (n c : Nat) (Z : Nat → Int) (w : World) (hn : n ≤ 4096) (h0 : 0 < n) (r : RowB w a n Z) (hok : ∀ j, j < n → okB (Z j) = true) :
    Calls Ybaf.prog 6 #[.slice a n c] w fun e w' => e = .returned .nilIface ∧ w' = w := by
  obtain ⟨b, o, rfl, hb, hc⟩ := r h0
  have hne : ((n : Int) == 0) = false := by simp; omega
  have HOK : Hid (∀ j, j < n → okB (Z j) = true) := hok
  have HC : Hid (∀ j, j < n → w.cell? ⟨b, o + j, none⟩ = some (.int .u8 (Z j))) := hc
  clear hok hc r
  go_enter Ybaf.func6, Ybaf.ntmps6
  go_wp2
  clear hne
  go_loop [12] (fun i => ∃ k : Nat, k ≤ n ∧ i = .int .i64 k) (fun i => n - (intOf i).toNat)
  case atStart => exact ⟨0, Nat.zero_le _, rfl⟩
  case round =>
    obtain ⟨k, hk, rfl⟩ := hrel
    by_cases hlt : k < n
    · have cu := HC.out k hlt
      have hr := okB_cases (HOK.out k hlt)
      generalize Z k = z at *
      rcases hr with ⟨h1, h2⟩ | ⟨h1, h2⟩ | ⟨h1, h2⟩ | h1
      · go_wp2
        go_round
        case rel => exact ⟨k + 1, by omega, by go_num⟩
        case measure => simp [intOf]; omega
      · go_wp2
        go_round
        case rel => exact ⟨k + 1, by omega, by go_num⟩
        case measure => simp [intOf]; omega
      · go_wp2
        go_round
        case rel => exact ⟨k + 1, by omega, by go_num⟩
        case measure => simp [intOf]; omega
      · subst h1
        go_wp2
        go_round
        case rel => exact ⟨k + 1, by omega, by go_num⟩
        case measure => simp [intOf]; omega
    · go_wp2
      go_ret
      exact ⟨rfl, rfl⟩

set_option maxHeartbeats 1600000 in
theorem chk_bad (F : Interp) (a : Option Addr) (n c : Nat) (Z : Nat → Int) (i : Nat) (w : World) (hF : F.answers w.tape) (hn : n ≤ 4096) (hi : i < n) (r : RowB w a n Z) (hok : ∀ j, j < i → okB (Z j) = true) (hbad : okB (Z i) = false) :
    Calls Ybaf.prog 6 #[.slice a n c] w fun e w' => (∃ p, e = .returned (.iface 32 (.pointer (some p)))) ∧ Below w.heap.size w w' := by
  obtain ⟨b, o, rfl, hb, hc⟩ := r (by omega)
  have hne : ((n : Int) == 0) = false := by simp; omega
  have HOK : Hid (∀ j, j < i → okB (Z j) = true) := hok
  have HB : Hid (okB (Z i) = false) := hbad
  have HC : Hid (∀ j, j < n → w.cell? ⟨b, o + j, none⟩ = some (.int .u8 (Z j))) := hc
  clear hok hc r hbad
  go_enter Ybaf.func6, Ybaf.ntmps6
  go_wp2
  clear hne
  go_loop [12] (fun x => ∃ k : Nat, k ≤ i ∧ x = .int .i64 k) (fun x => n - (intOf x).toNat)
  case atStart => exact ⟨0, Nat.zero_le _, rfl⟩
  case round =>
    obtain ⟨k, hk, rfl⟩ := hrel
    have hlt : k < n := by omega
    have cu := HC.out k hlt
    by_cases hki : k < i
    · have hr := okB_cases (HOK.out k hki)
      generalize Z k = z at *
      rcases hr with ⟨h1, h2⟩ | ⟨h1, h2⟩ | ⟨h1, h2⟩ | h1
      · go_wp2
        go_round
        case rel => exact ⟨k + 1, by omega, by go_num⟩
        case measure => simp [intOf]; omega
      · go_wp2
        go_round
        case rel => exact ⟨k + 1, by omega, by go_num⟩
        case measure => simp [intOf]; omega
      · go_wp2
        go_round
        case rel => exact ⟨k + 1, by omega, by go_num⟩
        case measure => simp [intOf]; omega
      · subst h1
        go_wp2
        go_round
        case rel => exact ⟨k + 1, by omega, by go_num⟩
        case measure => simp [intOf]; omega
    · have hr := okB_not (show okB (Z k) = false by rw [show k = i by omega]; exact HB.out)
      generalize Z k = z at *
      rcases hr with h1 | ⟨h1, h2⟩ | ⟨h1, h2⟩ | ⟨h1, h2⟩ | h1
      · have d45 : (z != 45) = true := by rw [bne_iff_ne]; omega
        go_wp2_with (first | (go_at_call 8; refine (errorf_any F _ _ w.heap.size _ (by exact hF) (by rw [World.cell?_alloc_at (hn := rfl)]; rfl) (by rw [World.cell?_alloc_at (hn := rfl)]; rfl)).mono ?_; rintro e w1 ⟨⟨p, rfl⟩, hb1⟩))
        go_ret
        exact ⟨⟨_, rfl⟩, ((Below.refl _ w).alloc (Nat.le_refl _) _).trans (hb1.mono (by simp))⟩
      · have d45 : (z != 45) = true := by rw [bne_iff_ne]; omega
        go_wp2_with (first | (go_at_call 8; refine (errorf_any F _ _ w.heap.size _ (by exact hF) (by rw [World.cell?_alloc_at (hn := rfl)]; rfl) (by rw [World.cell?_alloc_at (hn := rfl)]; rfl)).mono ?_; rintro e w1 ⟨⟨p, rfl⟩, hb1⟩))
        go_ret
        exact ⟨⟨_, rfl⟩, ((Below.refl _ w).alloc (Nat.le_refl _) _).trans (hb1.mono (by simp))⟩
      · have d45 : (z != 45) = true := by rw [bne_iff_ne]; omega
        go_wp2_with (first | (go_at_call 8; refine (errorf_any F _ _ w.heap.size _ (by exact hF) (by rw [World.cell?_alloc_at (hn := rfl)]; rfl) (by rw [World.cell?_alloc_at (hn := rfl)]; rfl)).mono ?_; rintro e w1 ⟨⟨p, rfl⟩, hb1⟩))
        go_ret
        exact ⟨⟨_, rfl⟩, ((Below.refl _ w).alloc (Nat.le_refl _) _).trans (hb1.mono (by simp))⟩
      · have d45 : (z != 45) = true := by rw [bne_iff_ne]; omega
        have d90 : decide (z ≤ 90) = false := decide_eq_false (by omega)
        go_wp2_with (first | (go_at_call 8; refine (errorf_any F _ _ w.heap.size _ (by exact hF) (by rw [World.cell?_alloc_at (hn := rfl)]; rfl) (by rw [World.cell?_alloc_at (hn := rfl)]; rfl)).mono ?_; rintro e w1 ⟨⟨p, rfl⟩, hb1⟩))
        go_ret
        exact ⟨⟨_, rfl⟩, ((Below.refl _ w).alloc (Nat.le_refl _) _).trans (hb1.mono (by simp))⟩
      · have d45 : (z != 45) = true := by rw [bne_iff_ne]; omega
        have d90 : decide (z ≤ 90) = false := decide_eq_false (by omega)
        have d122 : decide (z ≤ 122) = false := decide_eq_false (by omega)
        go_wp2_with (first | (go_at_call 8; refine (errorf_any F _ _ w.heap.size _ (by exact hF) (by rw [World.cell?_alloc_at (hn := rfl)]; rfl) (by rw [World.cell?_alloc_at (hn := rfl)]; rfl)).mono ?_; rintro e w1 ⟨⟨p, rfl⟩, hb1⟩))
        go_ret
        exact ⟨⟨_, rfl⟩, ((Below.refl _ w).alloc (Nat.le_refl _) _).trans (hb1.mono (by simp))⟩
end Go.Proofs.YbulkcciqFmt
