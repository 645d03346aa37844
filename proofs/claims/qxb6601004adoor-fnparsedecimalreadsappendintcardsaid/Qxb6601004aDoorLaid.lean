/-
  What the rows' listed tables give the walks: the table of powers of ten, by the name that the row bears. Ours.
-/
import Derived.Test.Qxb6601004aDoorAppend
import Derived.Lib.LaidTab
import Derived.LaidMore
import Derived.LaidHandle
import Derived.Stop.LaidErr
import Derived.Stop.Joined
import Derived.ProofKit
import Derived.OpenShut
namespace Go.Proofs.Qxb6601004aDoor
open Go.ChangeShapes Go.WideShapes Go.ChangeAt Go.RowKit

theorem own : ownKnob Tryd.prog.godebug = none := by kernel_rfl
/-- The listed datum is the table of powers of ten. -/
theorem datum : (Rows.laid_internal_strconv_uint64pow10 : DataW Unit) = Lib.tabData .u64 Lib.pow10Tab := by kernel_rfl
/-- What the rows list. -/
def listed : List (String × DataW Unit) := Rows.fnAppendIntCanonicalRow.laid
theorem listed_last : listed.drop 2 = [(Rows.fnAppendIntCanonicalRow.named.headD default, Lib.tabData .u64 Lib.pow10Tab)] := by
  rw [← datum]
  rfl

theorem tab_of_laid {W : World} (h : laidMetH Tryd.prog listed W) : Tab W := by
  rw [MakeChecks.laidMetH_plain _ _ _ (by kernel_rfl)] at h
  have h2 : laidMet Tryd.prog (listed.drop 2) W := laidMet.tail (laidMet.tail h)
  rw [listed_last] at h2
  exact Lib.tabIs_of_head (g := 0) (t := 38) (e := 28) (n := 20) (by kernel_rfl) (by kernel_rfl) Tryd.underlying38 Tryd.underlying28 (by kernel_rfl) (by kernel_rfl) h2
end Go.Proofs.Qxb6601004aDoor
