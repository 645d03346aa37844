/-
  The shelf's closure of 'strconv.AppendInt', laid at this program's own numbers: written in plain words by the kit's tools (lay-shelf, lay-plain) for this program. Each field is a fact of the loaded program or the kernel's comparison of two bodies.
-/
import Derived.Shelf.Strconv.AppendIntPublic10
import Derived.Test.Qxb6601004aDoorRows
namespace Go.Proofs.Qxb6601004aDoor
open Go.Shelf
def lays176_ren : Go.Shelf.Ren := ⟨fun | 176 => 7 | 249 => 9 | 288 => 10 | 283 => 11 | 284 => 12 | 285 => 13 | 286 => 14 | 129 => 16 | 317 => 15 | 318 => 17 | 319 => 18 | 320 => 19 | 337 => 20 | 338 => 21 | n => n, fun | 37 => 22 | 2 => 2 | 3 => 3 | 53 => 28 | 4 => 4 | 9 => 9 | 171 => 31 | 0 => 0 | 173 => 34 | 212 => 38 | 51 => 39 | 5 => 5 | 20 => 20 | 213 => 40 | 46 => 42 | 232 => 45 | 233 => 46 | n => n, fun | 17 => 0 | 18 => 1 | 19 => 2 | n => n⟩
theorem lays176 : Go.Proofs.LaysM.n176 Tryd.prog lays176_ren := {
  mixed := by kernel_rfl
  f129 := Tryd.func16.trans (congrArg some (by kernel_rfl))
  f176 := Tryd.func7.trans (congrArg some (by kernel_rfl))
  f249 := Tryd.func9.trans (congrArg some (by kernel_rfl))
  f283 := Tryd.func11.trans (congrArg some (by kernel_rfl))
  f284 := Tryd.func12.trans (congrArg some (by kernel_rfl))
  f285 := Tryd.func13.trans (congrArg some (by kernel_rfl))
  f286 := Tryd.func14.trans (congrArg some (by kernel_rfl))
  f288 := Tryd.func10.trans (congrArg some (by kernel_rfl))
  f317 := Tryd.func15.trans (congrArg some (by kernel_rfl))
  f318 := Tryd.func17.trans (congrArg some (by kernel_rfl))
  f319 := Tryd.func18.trans (congrArg some (by kernel_rfl))
  f320 := Tryd.func19.trans (congrArg some (by kernel_rfl))
  f337 := Tryd.func20.trans (congrArg some (by kernel_rfl))
  f338 := Tryd.func21.trans (congrArg some (by kernel_rfl))
  t0 := Tryd.underlying0
  a0 := Tryd.isAgg0
  z0 := Tryd.sizeOf0
  v0 := Tryd.zeroValue0
  t2 := Tryd.underlying2
  a2 := Tryd.isAgg2
  z2 := Tryd.sizeOf2
  v2 := Tryd.zeroValue2
  t3 := Tryd.underlying3
  a3 := Tryd.isAgg3
  z3 := Tryd.sizeOf3
  v3 := Tryd.zeroValue3
  t4 := Tryd.underlying4
  a4 := Tryd.isAgg4
  z4 := Tryd.sizeOf4
  v4 := Tryd.zeroValue4
  t5 := Tryd.underlying5
  a5 := Tryd.isAgg5
  z5 := Tryd.sizeOf5
  v5 := Tryd.zeroValue5
  t9 := Tryd.underlying9
  a9 := Tryd.isAgg9
  z9 := Tryd.sizeOf9
  v9 := Tryd.zeroValue9
  t20 := Tryd.underlying20
  a20 := Tryd.isAgg20
  z20 := Tryd.sizeOf20
  v20 := Tryd.zeroValue20
  t37 := Tryd.underlying22
  a37 := Tryd.isAgg22
  z37 := Tryd.sizeOf22
  v37 := Tryd.zeroValue22
  t46 := Tryd.underlying42
  a46 := Tryd.isAgg42
  z46 := Tryd.sizeOf42
  v46 := Tryd.zeroValue42
  t51 := Tryd.underlying39
  a51 := Tryd.isAgg39
  z51 := Tryd.sizeOf39
  v51 := Tryd.zeroValue39
  t53 := Tryd.underlying28
  a53 := Tryd.isAgg28
  z53 := Tryd.sizeOf28
  v53 := Tryd.zeroValue28
  t171 := Tryd.underlying31
  a171 := Tryd.isAgg31
  z171 := Tryd.sizeOf31
  v171 := Tryd.zeroValue31
  t173 := Tryd.underlying34
  a173 := Tryd.isAgg34
  z173 := Tryd.sizeOf34
  v173 := Tryd.zeroValue34
  t212 := Tryd.underlying38
  a212 := Tryd.isAgg38
  z212 := Tryd.sizeOf38
  v212 := Tryd.zeroValue38
  t213 := Tryd.underlying40
  a213 := Tryd.isAgg40
  z213 := Tryd.sizeOf40
  t232 := Tryd.underlying45
  a232 := Tryd.isAgg45
  z232 := Tryd.sizeOf45
  v232 := Tryd.zeroValue45
  t233 := Tryd.underlying46
  a233 := Tryd.isAgg46
  z233 := Tryd.sizeOf46
  v233 := Tryd.zeroValue46
  g17 := by kernel_rfl
  g18 := by kernel_rfl
  g19 := by kernel_rfl
  i0 := by kernel_rfl
  i2 := by kernel_rfl
  i3 := by kernel_rfl
  i4 := by kernel_rfl
  i5 := by kernel_rfl
  i9 := by kernel_rfl
  i20 := by kernel_rfl
  i37 := by kernel_rfl
  i46 := by kernel_rfl
  i51 := by kernel_rfl
  i53 := by kernel_rfl
  i171 := by kernel_rfl
  i173 := by kernel_rfl
  i212 := by kernel_rfl
  i232 := by kernel_rfl
  i233 := by kernel_rfl
  m17 := by kernel_rfl
  m18 := by kernel_rfl
  m19 := by kernel_rfl }

open Go.RowKit in
/-- strconv.AppendInt at base 10, onto a row of the call's own: the shelf's contract at this program's numbers. -/
theorem strconv_AppendInt_10 (B n : Nat) (i : Int) (h0 : -9223372036854775808 ≤ i) (h1 : i ≤ 9223372036854775807) (sv : Value) (xs : List Value) (w : World) (hown : w.ownsRow B 5 1 sv n xs) (hBw : B ≤ w.heap.size) (hlim : n + 21 ≤ 140737488355328)
    (htab : Lib.TabBelow Tryd.prog B w (Rows.fnAppendIntCanonicalRow.named.headD default) .u64 Lib.pow10Tab) :
    Calls Tryd.prog 7 #[sv, .int .i64 i, .int .i64 10] w fun e w' => ∃ v', e = .returned v' ∧ w'.ownsRow B 5 1 v' (n + (Lib.itoa i).length) (xs ++ Lib.byteCells (Lib.itoa i)) ∧ Below B w w' ∧ Lib.OthersKept 5 none w w' :=
  Any.strconv_AppendInt_10 lays176 B n i h0 h1 sv xs w hown hBw hlim htab
end Go.Proofs.Qxb6601004aDoor
