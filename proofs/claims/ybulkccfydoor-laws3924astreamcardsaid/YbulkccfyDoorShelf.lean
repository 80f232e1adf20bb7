/-
  The library's contract on strconv.AppendInt at base 10, at this seat's numbers (the guide's lay-shelf and lay-plain tools wrote the table of numbers).
-/
import Derived.Shelf.LaysM
import Derived.Shelf.Strconv.AppendIntPublic10
import Derived.Test.YbulkccfyDoorOwn
namespace Go.Proofs
open Go.Shelf
def Ybad.laysM176_ren : Go.Shelf.Ren := ⟨fun | 176 => 9 | 249 => 12 | 288 => 13 | 283 => 14 | 284 => 15 | 285 => 16 | 286 => 17 | 129 => 19 | 317 => 18 | 318 => 20 | 319 => 21 | 320 => 22 | 337 => 23 | 338 => 24 | n => n, fun | 37 => 22 | 2 => 2 | 3 => 3 | 53 => 37 | 4 => 4 | 9 => 9 | 171 => 40 | 0 => 0 | 173 => 43 | 212 => 47 | 51 => 48 | 5 => 5 | 20 => 20 | 213 => 49 | 46 => 51 | 232 => 54 | 233 => 55 | n => n, fun | 17 => 0 | 18 => 1 | 19 => 2 | n => n⟩
theorem Ybad.laysM176 : Go.Proofs.LaysM.n176 Ybad.prog Ybad.laysM176_ren := {
  mixed := by kernel_rfl
  f129 := Ybad.func19.trans (congrArg some (by kernel_rfl))
  f176 := Ybad.func9.trans (congrArg some (by kernel_rfl))
  f249 := Ybad.func12.trans (congrArg some (by kernel_rfl))
  f283 := Ybad.func14.trans (congrArg some (by kernel_rfl))
  f284 := Ybad.func15.trans (congrArg some (by kernel_rfl))
  f285 := Ybad.func16.trans (congrArg some (by kernel_rfl))
  f286 := Ybad.func17.trans (congrArg some (by kernel_rfl))
  f288 := Ybad.func13.trans (congrArg some (by kernel_rfl))
  f317 := Ybad.func18.trans (congrArg some (by kernel_rfl))
  f318 := Ybad.func20.trans (congrArg some (by kernel_rfl))
  f319 := Ybad.func21.trans (congrArg some (by kernel_rfl))
  f320 := Ybad.func22.trans (congrArg some (by kernel_rfl))
  f337 := Ybad.func23.trans (congrArg some (by kernel_rfl))
  f338 := Ybad.func24.trans (congrArg some (by kernel_rfl))
  t0 := Ybad.underlying0
  a0 := Ybad.isAgg0
  z0 := Ybad.sizeOf0
  v0 := Ybad.zeroValue0
  t2 := Ybad.underlying2
  a2 := Ybad.isAgg2
  z2 := Ybad.sizeOf2
  v2 := Ybad.zeroValue2
  t3 := Ybad.underlying3
  a3 := Ybad.isAgg3
  z3 := Ybad.sizeOf3
  v3 := Ybad.zeroValue3
  t4 := Ybad.underlying4
  a4 := Ybad.isAgg4
  z4 := Ybad.sizeOf4
  v4 := Ybad.zeroValue4
  t5 := Ybad.underlying5
  a5 := Ybad.isAgg5
  z5 := Ybad.sizeOf5
  v5 := Ybad.zeroValue5
  t9 := Ybad.underlying9
  a9 := Ybad.isAgg9
  z9 := Ybad.sizeOf9
  v9 := Ybad.zeroValue9
  t20 := Ybad.underlying20
  a20 := Ybad.isAgg20
  z20 := Ybad.sizeOf20
  v20 := Ybad.zeroValue20
  t37 := Ybad.underlying22
  a37 := Ybad.isAgg22
  z37 := Ybad.sizeOf22
  v37 := Ybad.zeroValue22
  t46 := Ybad.underlying51
  a46 := Ybad.isAgg51
  z46 := Ybad.sizeOf51
  v46 := Ybad.zeroValue51
  t51 := Ybad.underlying48
  a51 := Ybad.isAgg48
  z51 := Ybad.sizeOf48
  v51 := Ybad.zeroValue48
  t53 := Ybad.underlying37
  a53 := Ybad.isAgg37
  z53 := Ybad.sizeOf37
  v53 := Ybad.zeroValue37
  t171 := Ybad.underlying40
  a171 := Ybad.isAgg40
  z171 := Ybad.sizeOf40
  v171 := Ybad.zeroValue40
  t173 := Ybad.underlying43
  a173 := Ybad.isAgg43
  z173 := Ybad.sizeOf43
  v173 := Ybad.zeroValue43
  t212 := Ybad.underlying47
  a212 := Ybad.isAgg47
  z212 := Ybad.sizeOf47
  v212 := Ybad.zeroValue47
  t213 := Ybad.underlying49
  a213 := Ybad.isAgg49
  z213 := Ybad.sizeOf49
  t232 := Ybad.underlying54
  a232 := Ybad.isAgg54
  z232 := Ybad.sizeOf54
  v232 := Ybad.zeroValue54
  t233 := Ybad.underlying55
  a233 := Ybad.isAgg55
  z233 := Ybad.sizeOf55
  v233 := Ybad.zeroValue55
  g17 := by kernel_rfl
  g18 := by kernel_rfl
  g19 := by kernel_rfl
  i0 := by kernel_rfl
  i2 := by kernel_rfl
  i3 := by kernel_rfl
  i4 := by kernel_rfl
  i5 := by kernel_rfl
  i9 := by kernel_rfl
  i20 := by kernel_rfl
  i37 := by kernel_rfl
  i46 := by kernel_rfl
  i51 := by kernel_rfl
  i53 := by kernel_rfl
  i171 := by kernel_rfl
  i173 := by kernel_rfl
  i212 := by kernel_rfl
  i232 := by kernel_rfl
  i233 := by kernel_rfl
  m17 := by kernel_rfl
  m18 := by kernel_rfl
  m19 := by kernel_rfl }
end Go.Proofs
namespace Go.Proofs.YbulkccfyDoor
open Go.RowKit
/-- the table of powers of ten, by the name under which the row lists it -/
def powName : String := Rows.lawS3924AStreamRow.named.headD ""
theorem app_int (B : Nat) (i : Int) (h0 : -9223372036854775808 ≤ i) (h1 : i ≤ 9223372036854775807) (sv : Value) (bs : List UInt8) (w : World) (hown : Own B w sv bs) (hBw : B ≤ w.heap.size) (hlim : bs.length ≤ 100000)
    (htab : Lib.TabBelow Ybad.prog B w powName .u64 Lib.pow10Tab) :
    Calls Ybad.prog 9 #[sv, .int .i64 i, .int .i64 10] w fun e w' => ∃ v', e = .returned v' ∧ Own B w' v' (bs ++ Lib.itoa i) ∧ Below B w w' ∧ Lib.OthersKept 5 none w w' := by
  refine (Any.strconv_AppendInt_10 Ybad.laysM176 B bs.length i h0 h1 sv (Lib.byteCells bs) w hown hBw (by omega) htab).mono ?_
  rintro e w' ⟨v', rfl, h1, h2, h3⟩
  refine ⟨v', rfl, ?_, h2, h3⟩
  unfold Own
  rw [List.length_append, Lib.byteCells_append]
  exact h1
end Go.Proofs.YbulkccfyDoor
