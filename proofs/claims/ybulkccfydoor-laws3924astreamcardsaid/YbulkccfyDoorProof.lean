/-
  THE PROOF OF 'Rows.LawS3924AStreamCardSaid': the row (the frame was written by the guide's skeleton tool and turned to a row that lists variables), then the tied card.
-/
import Derived.Test.YbulkccfyDoorRows
import Derived.Test.YbulkccfyDoorTie
import Derived.Test.YbulkccfyDoorCards
import Derived.Test.YbulkccfyDoorLaw
import Derived.LaidMore
import Derived.Stop.Joined
import Derived.SevenTiedAt
import Derived.WalkKit
import Derived.ProofKit
import Derived.OpenShut
import Derived.ShutString
namespace Go.Proofs.YbulkccfyDoor.lawS3924AStream
open Go.ChangeShapes Go.WideShapes Go.ChangeAt Go.RowKit
open Go.ChangeMaps (open_string shut_string)
set_option linter.unusedVariables false      -- a walk need not use every 'w<i>' (that an integer argument fits its kind)

theorem own : ownKnob Ybad.prog.godebug = none := by kernel_rfl

theorem gPow : Ybad.prog.globalNamed powName = some 0 := by kernel_rfl
theorem tPow : (Ybad.prog.globals[0]?).map (·.type) = some 47 := by kernel_rfl
theorem cells37 : Ybad.prog.cellsOf 37 = 1 := by kernel_rfl
theorem cells47 : Ybad.prog.cellsOf 47 = 20 := by kernel_rfl
theorem pow_data : (Rows.laid_internal_strconv_uint64pow10 : DataW Unit) = Lib.tabData .u64 Lib.pow10Tab := by kernel_rfl

/-- The door's own heap meets the condition: closed facts. -/
theorem door_met (os : Os) (args : Array Value) : laidMetH Ybad.prog Rows.lawS3924AStreamRow.laid ((World.doorLaid Ybad.prog 4000 os).forCall (fun _ _ => 0) ⟨#[], args, []⟩).memory :=
  laidMetH_of_parts3 (fuel := 8) (laidMet_of_run' 8 (by kernel_rfl) (by kernel_rfl)) (by kernel_rfl) (by kernel_rfl)

/-- WHAT THE CONDITION GIVES THE WALK: the table of powers of ten. -/
theorem of_laid {W : World} (h : laidMetH Ybad.prog Rows.lawS3924AStreamRow.laid W) : Lib.TabIs Ybad.prog W powName .u64 Lib.pow10Tab := by
  rw [MakeChecks.laidMetH_plain _ _ _ (by kernel_rfl)] at h
  obtain ⟨ps, ⟨g0, t0, cs0, f0, p0, q0, hg0, ht0, hv0, hd0, ⟨g1, t1, cs1, f1, p1, q1, hg1, ht1, hv1, hd1, ⟨g2, t2, cs2, f2, p2, q2, hg2, ht2, hv2, hd2, _, _⟩, _⟩, _⟩, _, _⟩ := h
  obtain rfl := Option.some.inj (gPow.symm.trans hg2)
  obtain rfl := Option.some.inj (tPow.symm.trans ht2)
  have hd := hd2
  rw [pow_data] at hd
  have e := Lib.cells_of_tab Ybad.underlying47 Ybad.underlying37 cells37 cells47 hd
  have hv : W.var? Ybad.prog powName = some cs2 := hv2
  unfold Lib.TabIs
  rw [hv, ← e]

theorem walk (a0 : ByteArray) (a1 : Int) (a2 : ByteArray) (a3 : Int) (a4 : ByteArray) (a5 : ByteArray) (a6 : Int) (a7 : ByteArray) (a8 : Int) (a9 : ByteArray) (w0 : a0.size ≤ maxLen) (w1 : (Lit.int .i64 a1).wf = true) (w2 : a2.size ≤ maxLen) (w3 : (Lit.int .i64 a3).wf = true) (w4 : a4.size ≤ maxLen) (w5 : a5.size ≤ maxLen) (w6 : (Lit.int .i64 a6).wf = true) (w7 : a7.size ≤ maxLen) (w8 : (Lit.int .i64 a8).wf = true) (w9 : a9.size ≤ maxLen) (w : World) (htab : Lib.TabIs Ybad.prog w powName .u64 Lib.pow10Tab) :
    Calls Ybad.prog 4 #[.string a0, .int .i64 a1, .string a2, .int .i64 a3, .string a4, .string a5, .int .i64 a6, .string a7, .int .i64 a8, .string a9] w fun e w' => e = .returned (.bool true) ∧ Below w.heap.size w w' := by
  by_cases hall : a0.size ≤ 1024 ∧ a2.size ≤ 1024 ∧ a4.size ≤ 1024 ∧ a5.size ≤ 1024 ∧ a7.size ≤ 1024 ∧ a9.size ≤ 1024
  · obtain ⟨h0, h2, h4, h5, h7, h9⟩ := hall
    exact stream_core a0 a1 a2 a3 a4 a5 a6 a7 a8 a9 w (bounds_i64 w1) (bounds_i64 w6) h0 h2 h4 h5 h7 h9 htab
  · exact stream_long a0 a1 a2 a3 a4 a5 a6 a7 a8 a9 w hall

/-! ### THE ROW's STEP: WRITTEN OUT: LEAVE IT -/
set_option maxRecDepth 100000 in
theorem lifted (os : Os) (started : os.Started) (H : Type) (enc : TypeId × Value → H) :
    ReturnsInHanded {} Ybad.checked os 4 .any (fun w args => (Rows.lawS3924AStreamSpec.pre enc Ybad.prog Ybad.f4 [] false w args ∧ laidMetH Ybad.prog Rows.lawS3924AStreamRow.laid w) ∧ sizedMet enc Ybad.prog Ybad.f4 (OpenSpec.ofChange Rows.lawS3924AStreamSpec) false w args) (Rows.lawS3924AStreamSpec.post enc Ybad.prog Ybad.f4 false true false false) := by
  refine returnsInHanded_of_change_and (C := Ybad.checked) (X := fun w _ => laidMetH Ybad.prog Rows.lawS3924AStreamRow.laid w) (fun _ _ _ hh h => h.of_heap hh) own started (by kernel_rfl) Ybad.func4
    (ChangeSpec.witness_shaped (enc := enc) (C := Ybad.checked) (os := os) (X := fun w _ => laidMetH Ybad.prog Rows.lawS3924AStreamRow.laid w) false (World.doorLaid Ybad.prog 4000 os) #[.string ByteArray.empty, .int .i64 0, .string ByteArray.empty, .int .i64 0, .string ByteArray.empty, .string ByteArray.empty, .int .i64 0, .string ByteArray.empty, .int .i64 0, .string ByteArray.empty] 8 rfl (World.shaped_of_RefB (by kernel_rfl) (by kernel_rfl)) (by kernel_rfl) (by kernel_rfl) (by kernel_rfl) (door_met os _)) ?_
  intro W base args ds gs before hval0 hW _ _ hL _
  have hval : ∀ (j : Nat) t v, Ybad.f4.params[j]? = some t → args[j]? = some v → Value.okWide Ybad.prog W .any base t v := hval0
  have hW' := hW
  obtain ⟨p, q, hA0, hV, rfl, hfz, hnd⟩ := hW
  have hA : DataW.TrodAll enc Ybad.prog W 0 (fun _ => true) true Ybad.f4.params.toList args.toList ds p := hA0
  rw [Ybad.params4] at hA hval
  obtain ⟨v0, vs0, d0, ds0, p0, q0, hargs, rfl, rfl, h0, r0⟩ := trodAll_cons hA
  obtain ⟨v1, vs1, d1, ds1, p1, q1, rfl, rfl, rfl, h1, r1⟩ := trodAll_cons r0
  obtain ⟨v2, vs2, d2, ds2, p2, q2, rfl, rfl, rfl, h2, r2⟩ := trodAll_cons r1
  obtain ⟨v3, vs3, d3, ds3, p3, q3, rfl, rfl, rfl, h3, r3⟩ := trodAll_cons r2
  obtain ⟨v4, vs4, d4, ds4, p4, q4, rfl, rfl, rfl, h4, r4⟩ := trodAll_cons r3
  obtain ⟨v5, vs5, d5, ds5, p5, q5, rfl, rfl, rfl, h5, r5⟩ := trodAll_cons r4
  obtain ⟨v6, vs6, d6, ds6, p6, q6, rfl, rfl, rfl, h6, r6⟩ := trodAll_cons r5
  obtain ⟨v7, vs7, d7, ds7, p7, q7, rfl, rfl, rfl, h7, r7⟩ := trodAll_cons r6
  obtain ⟨v8, vs8, d8, ds8, p8, q8, rfl, rfl, rfl, h8, r8⟩ := trodAll_cons r7
  obtain ⟨v9, vs9, d9, ds9, p9, q9, rfl, rfl, rfl, h9, r9⟩ := trodAll_cons r8
  obtain ⟨rfl, rfl, rfl⟩ := trodAll_nil r9
  obtain rfl : args = #[v0, v1, v2, v3, v4, v5, v6, v7, v8, v9] := by cases args; simp_all
  obtain ⟨rfl, rfl⟩ := trodVars_none hV
  obtain ⟨a0, rfl, rfl, rfl, w0⟩ := open_string Ybad.underlying9 (hval 0 9 v0 rfl rfl) h0
  obtain ⟨a1, rfl, rfl, rfl, w1⟩ := open_int Ybad.underlying3 (hval 1 3 v1 rfl rfl) h1
  obtain ⟨a2, rfl, rfl, rfl, w2⟩ := open_string Ybad.underlying9 (hval 2 9 v2 rfl rfl) h2
  obtain ⟨a3, rfl, rfl, rfl, w3⟩ := open_int Ybad.underlying3 (hval 3 3 v3 rfl rfl) h3
  obtain ⟨a4, rfl, rfl, rfl, w4⟩ := open_string Ybad.underlying9 (hval 4 9 v4 rfl rfl) h4
  obtain ⟨a5, rfl, rfl, rfl, w5⟩ := open_string Ybad.underlying9 (hval 5 9 v5 rfl rfl) h5
  obtain ⟨a6, rfl, rfl, rfl, w6⟩ := open_int Ybad.underlying3 (hval 6 3 v6 rfl rfl) h6
  obtain ⟨a7, rfl, rfl, rfl, w7⟩ := open_string Ybad.underlying9 (hval 7 9 v7 rfl rfl) h7
  obtain ⟨a8, rfl, rfl, rfl, w8⟩ := open_int Ybad.underlying3 (hval 8 3 v8 rfl rfl) h8
  obtain ⟨a9, rfl, rfl, rfl, w9⟩ := open_string Ybad.underlying9 (hval 9 9 v9 rfl rfl) h9
  clear hA0 hval0
  simp only [List.append_nil] at hW'
  refine (walk a0 a1 a2 a3 a4 a5 a6 a7 a8 a9 w0 w1 w2 w3 w4 w5 w6 w7 w8 w9 W (of_laid hL)).mono fun e W' ⟨he, hg⟩ => ?_
  subst he
  exact ⟨_, rfl, _, _, _, [], [], [], hW', trodAll_mk1 (shut_bool Ybad.underlying4 _), (trodAll_cons_mk (shut_string Ybad.underlying9 w0) (trodAll_cons_mk (shut_int Ybad.underlying3 w1) (trodAll_cons_mk (shut_string Ybad.underlying9 w2) (trodAll_cons_mk (shut_int Ybad.underlying3 w3) (trodAll_cons_mk (shut_string Ybad.underlying9 w4) (trodAll_cons_mk (shut_string Ybad.underlying9 w5) (trodAll_cons_mk (shut_int Ybad.underlying3 w6) (trodAll_cons_mk (shut_string Ybad.underlying9 w7) (trodAll_cons_mk (shut_int Ybad.underlying3 w8) (trodAll_cons_mk (shut_string Ybad.underlying9 w9) trodAll_mk0)))))))))), rfl, hg.frame _, fun h => by cases h⟩

theorem over : Rows.lawS3924AStreamRow.holds Ybad.pinned (OpenSpec.ofChange Rows.lawS3924AStreamSpec) :=
  OpenClaim.holds_of_wide 4 Ybad.f4 rfl rfl rfl rfl rfl rfl rfl ⟨rfl, rfl, rfl, rfl, rfl⟩ rfl rfl rfl rfl rfl (by kernel_rfl) Ybad.func4 (by kernel_rfl)
    (of_decide_eq_true (by kernel_rfl)) (by unfold Func.isWrapper; first | (rw [if_pos (by decide +kernel)]; kernel_rfl) | (rw [if_neg (by decide +kernel)]; exact ⟨rfl, rfl⟩))
    (fun os started H enc _ => lifted os started H enc)

/-- the row -/
theorem proved : Rows.LawS3924AStreamSaid :=
  over

/-- the tied card -/
theorem card : Rows.LawS3924AStreamCardSaid :=
  Claim7.holds_tied_plain_at .later [] [.data, .data, .data] true Rows.lawS3924AStreamCard.stood.harness false
    proved (fun _ h => by cases h) (by kernel_rfl) (fun _ h => by cases h) lawS3924AStream_row_tie rfl ⟨rfl, rfl⟩ (by kernel_rfl) rfl
    (fun f fn hf hfn => by
      obtain rfl : f = 4 := Option.some.inj ((show Ybad.prog.funcNamed Rows.lawS3924AStreamRow.func = some 4 by kernel_rfl).symm.trans hf) |>.symm
      obtain rfl : fn = Ybad.f4 := (Option.some.inj (Ybad.func4.symm.trans hfn)).symm
      exact ⟨by kernel_rfl, fun j t ht => by
        rw [Ybad.params4] at ht
        have hm : t ∈ [9, 3, 9, 3, 9, 9, 3, 9, 3, 9] := by simpa using Array.mem_of_getElem? ht
        have hall : ([9, 3, 9, 3, 9, 9, 3, 9, 3, 9].all fun u => !Ybad.prog.wantsStandIn u) = true := by kernel_rfl
        exact (show Ybad.prog.wantsStandIn t = false by simpa using List.all_eq_true.1 hall t hm)⟩)
    (by kernel_rfl)
end Go.Proofs.YbulkccfyDoor.lawS3924AStream
namespace Go.Proofs.YbulkccfyDoor
theorem lawS3924AStreamCard_proved : Rows.LawS3924AStreamCardSaid := lawS3924AStream.card
end Go.Proofs.YbulkccfyDoor
