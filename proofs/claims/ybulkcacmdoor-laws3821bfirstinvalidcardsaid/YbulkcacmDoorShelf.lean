/-
  THE SHELF's CONTRACT OF strconv.Itoa AT THIS DUMP, IN PLAIN WORDS (out of what the kit's lay-shelf.mjs and lay-plain.mjs wrote for this program; only the laying that strconv.Itoa wants is kept).
-/
import Derived.Shelf.LaysM
import Derived.Shelf.Strconv.Itoa3
import Derived.Test.YbulkcacmDoorRows
namespace Go.Proofs.YbulkcacmDoor
open Go.Shelf
def itoaRen : Go.Shelf.Ren := ⟨fun | 171 => 7 | 243 => 8 | 246 => 9 | 283 => 10 | 284 => 11 | 285 => 12 | 286 => 13 | 129 => 15 | 317 => 14 | 318 => 16 | 319 => 17 | 320 => 18 | 337 => 19 | 338 => 20 | n => n, fun | 3 => 3 | 9 => 9 | 2 => 2 | 4 => 4 | 171 => 45 | 0 => 0 | 53 => 46 | 37 => 23 | 5 => 5 | 173 => 49 | 212 => 53 | 51 => 54 | 20 => 20 | 213 => 55 | 46 => 57 | 232 => 60 | 233 => 61 | n => n, fun | 17 => 2 | 18 => 3 | 19 => 4 | n => n⟩
theorem itoaLays : Go.Proofs.LaysM.n171 Ybad.prog itoaRen := {
  mixed := by kernel_rfl
  f129 := Ybad.func15.trans (congrArg some (by kernel_rfl))
  f171 := Ybad.func7.trans (congrArg some (by kernel_rfl))
  f243 := Ybad.func8.trans (congrArg some (by kernel_rfl))
  f246 := Ybad.func9.trans (congrArg some (by kernel_rfl))
  f283 := Ybad.func10.trans (congrArg some (by kernel_rfl))
  f284 := Ybad.func11.trans (congrArg some (by kernel_rfl))
  f285 := Ybad.func12.trans (congrArg some (by kernel_rfl))
  f286 := Ybad.func13.trans (congrArg some (by kernel_rfl))
  f317 := Ybad.func14.trans (congrArg some (by kernel_rfl))
  f318 := Ybad.func16.trans (congrArg some (by kernel_rfl))
  f319 := Ybad.func17.trans (congrArg some (by kernel_rfl))
  f320 := Ybad.func18.trans (congrArg some (by kernel_rfl))
  f337 := Ybad.func19.trans (congrArg some (by kernel_rfl))
  f338 := Ybad.func20.trans (congrArg some (by kernel_rfl))
  t0 := Ybad.underlying0
  a0 := Ybad.isAgg0
  z0 := Ybad.sizeOf0
  v0 := Ybad.zeroValue0
  t2 := Ybad.underlying2
  a2 := Ybad.isAgg2
  z2 := Ybad.sizeOf2
  v2 := Ybad.zeroValue2
  t3 := Ybad.underlying3
  a3 := Ybad.isAgg3
  z3 := Ybad.sizeOf3
  v3 := Ybad.zeroValue3
  t4 := Ybad.underlying4
  a4 := Ybad.isAgg4
  z4 := Ybad.sizeOf4
  v4 := Ybad.zeroValue4
  t5 := Ybad.underlying5
  a5 := Ybad.isAgg5
  z5 := Ybad.sizeOf5
  v5 := Ybad.zeroValue5
  t9 := Ybad.underlying9
  a9 := Ybad.isAgg9
  z9 := Ybad.sizeOf9
  v9 := Ybad.zeroValue9
  t20 := Ybad.underlying20
  a20 := Ybad.isAgg20
  z20 := Ybad.sizeOf20
  v20 := Ybad.zeroValue20
  t37 := Ybad.underlying23
  a37 := Ybad.isAgg23
  z37 := Ybad.sizeOf23
  v37 := Ybad.zeroValue23
  t46 := Ybad.underlying57
  a46 := Ybad.isAgg57
  z46 := Ybad.sizeOf57
  v46 := Ybad.zeroValue57
  t51 := Ybad.underlying54
  a51 := Ybad.isAgg54
  z51 := Ybad.sizeOf54
  v51 := Ybad.zeroValue54
  t53 := Ybad.underlying46
  a53 := Ybad.isAgg46
  z53 := Ybad.sizeOf46
  v53 := Ybad.zeroValue46
  t171 := Ybad.underlying45
  a171 := Ybad.isAgg45
  z171 := Ybad.sizeOf45
  v171 := Ybad.zeroValue45
  t173 := Ybad.underlying49
  a173 := Ybad.isAgg49
  z173 := Ybad.sizeOf49
  v173 := Ybad.zeroValue49
  t212 := Ybad.underlying53
  a212 := Ybad.isAgg53
  z212 := Ybad.sizeOf53
  v212 := Ybad.zeroValue53
  t213 := Ybad.underlying55
  a213 := Ybad.isAgg55
  z213 := Ybad.sizeOf55
  t232 := Ybad.underlying60
  a232 := Ybad.isAgg60
  z232 := Ybad.sizeOf60
  v232 := Ybad.zeroValue60
  t233 := Ybad.underlying61
  a233 := Ybad.isAgg61
  z233 := Ybad.sizeOf61
  v233 := Ybad.zeroValue61
  g17 := by kernel_rfl
  g18 := by kernel_rfl
  g19 := by kernel_rfl
  i0 := by kernel_rfl
  i2 := by kernel_rfl
  i3 := by kernel_rfl
  i4 := by kernel_rfl
  i5 := by kernel_rfl
  i9 := by kernel_rfl
  i20 := by kernel_rfl
  i37 := by kernel_rfl
  i46 := by kernel_rfl
  i51 := by kernel_rfl
  i53 := by kernel_rfl
  i171 := by kernel_rfl
  i173 := by kernel_rfl
  i212 := by kernel_rfl
  i232 := by kernel_rfl
  i233 := by kernel_rfl
  m17 := by kernel_rfl
  m18 := by kernel_rfl
  m19 := by kernel_rfl }

/-- The table's name, as the row lists it. -/
def pow10Name : String := Rows.lawS3821BFirstInvalidRow.named.getD 2 default

open Go.RowKit Go.Sort Go.Lib in
/-- strconv.Itoa: the decimal numeral of every int. The world behind the call: new blocks, draws. -/
theorem itoa_any (n : Int) (h0 : -9223372036854775808 ≤ n) (h1 : n ≤ 9223372036854775807) (w : World) (htab : Lib.TabIs Ybad.prog w pow10Name .u64 Lib.pow10Tab) :
    Calls Ybad.prog 7 #[.int .i64 n] w fun e w' => e = .returned (.string ⟨(Lib.itoa n).toArray⟩) ∧ ∃ k os, w' = grow (w.drewN k) os :=
  Any.strconv_Itoa itoaLays n h0 h1 w htab

end Go.Proofs.YbulkcacmDoor
