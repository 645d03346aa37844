/-
  The walk of 'FnParseDecimalReadsAppendInt' (function 3). Ours.
-/
import Derived.Test.Qxb6601004aDoorAppend
import Derived.Test.Qxb6601004aDoorPd
namespace Go.Proofs.Qxb6601004aDoor
open Go.RowKit
set_option linter.unusedVariables false

set_option maxRecDepth 100000 in
set_option maxHeartbeats 1000000 in
/-- The law's walk. -/
theorem reads_any (i : Int) (h0 : -9223372036854775808 ≤ i) (h1 : i ≤ 9223372036854775807) (w : World) (htab : Tab w) : Calls Tryd.prog 3 #[.int .i64 i] w fun e w' => e = .returned (.bool true) ∧ Below w.heap.size w w' := by
  obtain ⟨l1, l2⟩ := txt_length i h0 h1
  obtain ⟨m, hm⟩ : ∃ m, Hid ((txt i).length = m) := ⟨_, rfl⟩
  rw [hm.out] at l1 l2
  have d0 : decide ((m : Int) + 2 < 3) = false := decide_eq_false (by omega)
  have hp : Hid (parsed (txt i) = (i, true)) := parsed_txt i h0 h1
  go_enter Tryd.func3, Tryd.ntmps3
  go_wp2_with fail
  refine (ai_any i h0 h1 _ htab m hm).mono ?_
  rintro e w' ⟨g, cap, rfl, c1, c2, k0, kT, k1, hb⟩
  have HB : Hid (Below w.heap.size w w') := hb
  have HT : Hid (∀ j, j < m → w'.cell? ⟨g, 1 + j, none⟩ = some (.int .u8 (nth (txt i) j))) := kT
  clear kT hb htab
  go_wp2_with fail
  refine (zzpd_any g 1 m (cap - 1) (txt i) _ hm.out (by omega) (by omega) (by omega) (nums_mem _) HT.out i true hp).mono ?_
  rintro e w2 ⟨rfl, rfl⟩
  go_wp2
  go_ret
  exact ⟨rfl, HB.out⟩
end Go.Proofs.Qxb6601004aDoor
