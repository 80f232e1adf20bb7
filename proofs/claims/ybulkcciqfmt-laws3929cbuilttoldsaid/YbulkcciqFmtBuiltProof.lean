/-
  THE PROOF OF 'Rows.LawS3929CBuiltToldSaid': the row's step with fmt's text told, then the card.
-/
import Derived.Test.YbulkcciqFmtRows
import Derived.Test.YbulkcciqFmtCards
import Derived.Test.YbulkcciqFmtBuilt
import Derived.OpenShut
import Derived.Stop.JoinedAt
import Derived.Stop.JoinedTold
import Derived.SevenToldRow
namespace Go.Proofs.YbulkcciqFmt.lawS3929CBuilt
open Go.ChangeShapes Go.WideShapes Go.ChangeAt Go.RowKit Go.Extern.Stop Go.Stop Go.Extern

theorem own : ownKnob Ybaf.prog.godebug = none := by kernel_rfl
theorem laidOut : laidOutB Ybaf.prog = true := by kernel_rfl
theorem cells5 : Ybaf.prog.cellsOf 5 = 1 := by kernel_rfl

theorem row_of {W : World} {a : Addr} {len : Nat} {zs : List Int} (hl : len ≤ zs.length) (hc : ∀ i, i < zs.length → W.cell? (a.add i) = some (.int .u8 (zs.getD i 0))) : RowB W (some a) len (fun j => zs.getD j 0) := by
  intro hpos
  obtain ⟨b, o, sp⟩ := a
  have h0 := hc 0 (by omega)
  have hsp : sp = none := by simpa [Addr.add] using World.cell?_spot h0
  subst hsp
  refine ⟨b, o, rfl, ?_, fun j hj => ?_⟩
  · rcases Nat.lt_or_ge b W.heap.size with h | h
    · exact h
    · simp [World.cell?, Addr.add, Array.getElem?_eq_none h] at h0
  · have := hc j (by omega)
    rwa [Addr.add_lit] at this
theorem byte_of {len : Nat} {zs : List Int} (hl : len ≤ zs.length) (hw : ∀ n ∈ zs, (Lit.int .u8 n).wf = true) : ∀ j, j < len → 0 ≤ zs.getD j 0 ∧ zs.getD j 0 ≤ 255 := by
  intro j hj
  have hj' : j < zs.length := by omega
  have e : zs.getD j 0 = zs[j] := by simp [List.getD, hj']
  rw [e]
  exact bounds_u8 (hw _ (List.getElem_mem hj'))

theorem walk (F : Interp) (a : Option Addr) (n c : Nat) (Z : Nat → Int) (t b : Int) (w : World) (hF : F.answers w.tape) (r : RowB w a n Z) (hz : ∀ j, j < n → 0 ≤ Z j ∧ Z j ≤ 255) (wt : (Lit.int .u16 t).wf = true) (wb : (Lit.int .u8 b).wf = true) :
    Calls Ybaf.prog 4 #[.slice a n c, .int .u16 t, .int .u8 b] w fun e w' => e = .returned (.bool true) ∧ Below w.heap.size w w' := by
  by_cases hn : n ≤ 4096
  · exact built_core F a n c Z t b w hF hn r hz (bounds_u16 wt).1 (bounds_u16 wt).2 (bounds_u8 wb).1 (bounds_u8 wb).2
  · have hd : (4096 : Int) < (n : Int) := by omega
    clear r hz wt wb
    go_enter Ybaf.func4, Ybaf.ntmps4
    go_wp2
    go_ret
    exact ⟨rfl, Below.refl _ _⟩

set_option maxRecDepth 100000 in
theorem lifted (os : Os) (started : os.Started) (H : Type) (enc : TypeId × Value → H) :
    ReturnsInTold none {} Ybaf.checked os 4 .any Input.okWide ((OpenSpec.ofChange Rows.lawS3929CBuiltSpec).preRow enc Ybaf.prog Ybaf.f4 [] false []) (fun F => ((OpenSpec.ofChange Rows.lawS3929CBuiltSpec).at F).post enc Ybaf.prog Ybaf.f4 false true false false) (aloneAtReturn Ybaf.prog) nothingAlways := by
  refine returnsInTold_of_row (C := Ybaf.checked) (s := OpenSpec.ofChange Rows.lawS3929CBuiltSpec) (by kernel_rfl) own started (by kernel_rfl) Ybaf.func4
    (OpenSpec.witness_stopped (enc := enc) (C := Ybaf.checked) false ⟨#[], #[.slice none 0 0, .int .u16 0, .int .u8 0], []⟩ 8 (by kernel_rfl) (by kernel_rfl) (by kernel_rfl) (by kernel_rfl)) ?_
  intro F W base args ds gs before _ hF hval0 hW _ _ _ _ _
  have hval : ∀ (j : Nat) t v, Ybaf.f4.params[j]? = some t → args[j]? = some v → Value.okWide Ybaf.prog W .any base t v := hval0
  have hW' := hW
  obtain ⟨p, q, hA0, hV, rfl, _, _⟩ := hW
  have hA : DataW.TrodAll enc Ybaf.prog W 0 (fun _ => true) true Ybaf.f4.params.toList args.toList ds p := hA0
  rw [Ybaf.params4] at hA hval
  obtain ⟨v0, v1, v2, d0, d1, d2, p0, p1, p2, rfl, rfl, rfl, h0, h1, h2⟩ := trodAll_three hA
  obtain ⟨rfl, rfl⟩ := trodVars_none hV
  obtain ⟨a0, len, cap, rfl⟩ := okWide_slice Ybaf.underlying22 (hval 0 22 v0 rfl rfl)
  obtain ⟨t, rfl, rfl, rfl, wt⟩ := open_int Ybaf.underlying28 (hval 1 28 v1 rfl rfl) h1
  obtain ⟨b, rfl, rfl, rfl, wb⟩ := open_int Ybaf.underlying5 (hval 2 5 v2 rfl rfl) h2
  have h0k := h0
  obtain ⟨fuel, hf⟩ := h0
  clear hA0 hval0
  have hlt : ∀ x ∈ p0, x.block < W.heap.size := by obtain ⟨m, hm⟩ := h0k; exact DataW.trod_lt m _ _ _ hm
  obtain ⟨Z, hr, hz⟩ : ∃ Z : Nat → Int, RowB W a0 len Z ∧ ∀ j, j < len → 0 ≤ Z j ∧ Z j ≤ 255 := by
    rcases open_ints Ybaf.underlying22 Ybaf.underlying5 cells5 hf with ⟨hcs, _⟩ | ⟨a, len', cap', zs, hcs, _, hl, hm, hz, _, hcell, hwz⟩
    · simp [Value.cells] at hcs
      obtain ⟨rfl, rfl, rfl⟩ := hcs
      exact ⟨fun _ => 0, fun h => absurd h (by omega), fun j h => absurd h (by omega)⟩
    · simp [Value.cells] at hcs
      obtain ⟨rfl, rfl, rfl⟩ := hcs
      simp only [if_true] at hz
      exact ⟨fun j => zs.getD j 0, row_of (by omega) hcell, byte_of (by omega) hwz⟩
  refine (walk F.told a0 len cap Z t b W hF hr hz wt wb).mono fun e W' ⟨he, hnx⟩ => ?_
  subst he
  exact ⟨_, rfl, _, _, _, [], _, [], hW', trodAll_mk1 (shut_bool Ybaf.underlying4 _), (trodAll_cons_mk (Below.trod laidOut (by kernel_rfl) (of_decide_eq_true (by kernel_rfl)) h0k hnx hlt) (trodAll_cons_mk (shut_int Ybaf.underlying28 wt) (trodAll_cons_mk (shut_int Ybaf.underlying5 wb) trodAll_mk0))), rfl, hnx.frame _, fun h => by cases h⟩

theorem stops : Ybaf.pinned.checked.prog.stops = ["fmt.errorf"] := by kernel_rfl
theorem stopKnobs : Ybaf.pinned.checked.prog.stopKnobs = [] := by kernel_rfl
theorem quiet (os : Os) : Stop.quiet Ybaf.pinned.checked.prog os := by
  intro k hk
  rw [stopKnobs] at hk
  cases hk

theorem proved : Rows.LawS3929CBuiltToldSaid :=
  Claim7.holds_of_told_any 4 Ybaf.f4 "fmt.errorf" [] [] _ _ _ (by kernel_rfl) rfl rfl rfl laidOut (by kernel_rfl) rfl ⟨rfl, rfl, rfl, rfl, rfl, rfl, rfl⟩ rfl rfl (by kernel_rfl) (by kernel_rfl) Ybaf.func4 (by kernel_rfl)
    (of_decide_eq_true (by kernel_rfl)) (of_decide_eq_true (by kernel_rfl)) stops.symm rfl stopKnobs.symm (by kernel_rfl)
    (by kernel_rfl) (by kernel_rfl) (by kernel_rfl) (by kernel_rfl) (by kernel_rfl) (by kernel_rfl) (by kernel_rfl) (by kernel_rfl) (by kernel_rfl) rfl (by kernel_rfl) rfl rfl
    rfl rfl
    rfl (by kernel_rfl) (by kernel_rfl) (by kernel_rfl) (by decide) (by kernel_rfl)
    (OpenClaim.moreEntering_of (by kernel_rfl) (by kernel_rfl) (by kernel_rfl) (by kernel_rfl) (by kernel_rfl) (by kernel_rfl) (by kernel_rfl) (by kernel_rfl) (by kernel_rfl) (by kernel_rfl))
    ⟨_, WideRow.started_initial, quiet _⟩
    (fun os started _ H enc _ => lifted os started H enc)
end Go.Proofs.YbulkcciqFmt.lawS3929CBuilt
namespace Go.Proofs.YbulkcciqFmt
theorem lawS3929CBuiltTold_proved : Rows.LawS3929CBuiltToldSaid := lawS3929CBuilt.proved
end Go.Proofs.YbulkcciqFmt
