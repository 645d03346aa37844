/-
  The walk of the shim 'ZZpairPriority' (function 7) with 'pairPriority' (function 9) under it, and the plain laws on a pair's priority. Ours.
-/
import Derived.Test.Qxb6600613aRows
import Derived.WalkKit
import Derived.ProofKit
namespace Go.Proofs.Qxb6600613a.pair
open Go.ChangeShapes Go.WideShapes Go.ChangeAt Go.RowKit

/-- The pair's priority of the controlling host's candidate g and the controlled host's d, as a uint64 holds it. -/
def pp (g d : Int) : Int := (4294967296 * min g d + 2 * max g d + (if d < g then 1 else 0)) % 18446744073709551616

theorem ret_int {k : IntKind} {a b : Int} (h : a = b) : Ending.returned (.int k a) = .returned (.int k b) := by rw [h]

theorem pp_lt (g d : Int) (h : g < d) (h0 : 0 ≤ g) (h1 : d < 4294967296) : pp g d = 4294967296 * g + 2 * d := by
  unfold pp
  rw [if_neg (by omega)]
  omega

theorem pp_gt (g d : Int) (h : d < g) (h0 : 0 ≤ d) (h1 : g < 4294967296) : pp g d = 4294967296 * d + 2 * g + 1 := by
  unfold pp
  rw [if_pos h]
  omega

theorem pp_eq (g : Int) (h0 : 0 ≤ g) (h1 : g < 4294967295) : pp g g = 4294967296 * g + 2 * g := by
  unfold pp
  rw [if_neg (by omega)]
  omega

theorem pp_top : pp 4294967295 4294967295 = 4294967294 := by decide

theorem pp_range (g d : Int) : 0 ≤ pp g d ∧ pp g d < 18446744073709551616 := by
  unfold pp
  omega

/-- With no wrap: the value itself. -/
theorem pp_plain (g d : Int) (g0 : 0 ≤ g) (g1 : g ≤ 4294967295) (d0 : 0 ≤ d) (d1 : d ≤ 4294967295) (h : ¬ (g = 4294967295 ∧ d = 4294967295)) :
    pp g d = 4294967296 * min g d + 2 * max g d + (if d < g then 1 else 0) := by
  unfold pp
  split <;> omega

theorem pp_mono_left (lo hi o : Int) (h : lo < hi) (l0 : 0 ≤ lo) (h1 : hi ≤ 4294967295) (o0 : 0 ≤ o) (o1 : o ≤ 4294967295) (hne : ¬ (hi = 4294967295 ∧ o = 4294967295)) :
    pp lo o < pp hi o := by
  rw [pp_plain lo o l0 (by omega) o0 o1 (by omega), pp_plain hi o (by omega) h1 o0 o1 hne]
  split <;> split <;> omega

theorem pp_mono_right (lo hi o : Int) (h : lo < hi) (l0 : 0 ≤ lo) (h1 : hi ≤ 4294967295) (o0 : 0 ≤ o) (o1 : o ≤ 4294967295) (hne : ¬ (hi = 4294967295 ∧ o = 4294967295)) :
    pp o lo < pp o hi := by
  rw [pp_plain o lo o0 o1 l0 (by omega) (by omega), pp_plain o hi o0 o1 (by omega) h1 (by omega)]
  split <;> split <;> omega

/-- What the shim answers. -/
def ans (c : Bool) (l r : Int) : Int := if c then pp l r else pp r l

set_option maxHeartbeats 400000 in
theorem zz_true (l r : Int) (l0 : 0 ≤ l) (l1 : l ≤ 4294967295) (r0 : 0 ≤ r) (r1 : r ≤ 4294967295) (w : World) :
    Calls Try.prog 7 #[.bool true, .int .u32 l, .int .u32 r] w fun e w' => e = .returned (.int .u64 (pp l r)) ∧ w' = w := by
  by_cases h : l < r
  · have H : Hid (pp l r = 4294967296 * l + 2 * r) := pp_lt l r h l0 (by omega)
    go_enter Try.func7, Try.ntmps7
    go_wp2
    go_ret
    exact ⟨ret_int H.out.symm, rfl⟩
  by_cases h2 : r < l
  · have H : Hid (pp l r = 4294967296 * r + 2 * l + 1) := pp_gt l r h2 r0 (by omega)
    go_enter Try.func7, Try.ntmps7
    go_wp2
    go_ret
    exact ⟨ret_int H.out.symm, rfl⟩
  · have e : l = r := by omega
    subst e
    by_cases h3 : l < 4294967295
    · have H : Hid (pp l l = 4294967296 * l + 2 * l) := pp_eq l l0 h3
      go_enter Try.func7, Try.ntmps7
      go_wp2
      go_ret
      exact ⟨ret_int H.out.symm, rfl⟩
    · have e : l = 4294967295 := by omega
      subst e
      have H : Hid (pp 4294967295 4294967295 = 4294967294) := pp_top
      go_enter Try.func7, Try.ntmps7
      go_wp2
      go_ret
      exact ⟨ret_int H.out.symm, rfl⟩
set_option maxHeartbeats 400000 in
theorem zz_false (l r : Int) (l0 : 0 ≤ l) (l1 : l ≤ 4294967295) (r0 : 0 ≤ r) (r1 : r ≤ 4294967295) (w : World) :
    Calls Try.prog 7 #[.bool false, .int .u32 l, .int .u32 r] w fun e w' => e = .returned (.int .u64 (pp r l)) ∧ w' = w := by
  by_cases h : l < r
  · have H : Hid (pp r l = 4294967296 * l + 2 * r + 1) := pp_gt r l h l0 (by omega)
    go_enter Try.func7, Try.ntmps7
    go_wp2
    go_ret
    exact ⟨ret_int H.out.symm, rfl⟩
  by_cases h2 : r < l
  · have H : Hid (pp r l = 4294967296 * r + 2 * l) := pp_lt r l h2 r0 (by omega)
    go_enter Try.func7, Try.ntmps7
    go_wp2
    go_ret
    exact ⟨ret_int H.out.symm, rfl⟩
  · have e : l = r := by omega
    subst e
    by_cases h3 : l < 4294967295
    · have H : Hid (pp l l = 4294967296 * l + 2 * l) := pp_eq l l0 h3
      go_enter Try.func7, Try.ntmps7
      go_wp2
      go_ret
      exact ⟨ret_int H.out.symm, rfl⟩
    · have e : l = 4294967295 := by omega
      subst e
      have H : Hid (pp 4294967295 4294967295 = 4294967294) := pp_top
      go_enter Try.func7, Try.ntmps7
      go_wp2
      go_ret
      exact ⟨ret_int H.out.symm, rfl⟩

theorem zz_any (c : Bool) (l r : Int) (l0 : 0 ≤ l) (l1 : l ≤ 4294967295) (r0 : 0 ≤ r) (r1 : r ≤ 4294967295) (w : World) :
    Calls Try.prog 7 #[.bool c, .int .u32 l, .int .u32 r] w fun e w' => e = .returned (.int .u64 (ans c l r)) ∧ w' = w := by
  cases c
  · exact zz_false l r l0 l1 r0 r1 w
  · exact zz_true l r l0 l1 r0 r1 w

theorem ans_mono_local (c : Bool) (lo hi o : Int) (h : lo < hi) (l0 : 0 ≤ lo) (h1 : hi ≤ 4294967295) (o0 : 0 ≤ o) (o1 : o ≤ 4294967295) (hne : ¬ (hi = 4294967295 ∧ o = 4294967295)) :
    ans c lo o < ans c hi o := by
  cases c
  · exact pp_mono_right lo hi o h l0 h1 o0 o1 hne
  · exact pp_mono_left lo hi o h l0 h1 o0 o1 hne

theorem ans_mono_remote (c : Bool) (lo hi o : Int) (h : lo < hi) (l0 : 0 ≤ lo) (h1 : hi ≤ 4294967295) (o0 : 0 ≤ o) (o1 : o ≤ 4294967295) (hne : ¬ (hi = 4294967295 ∧ o = 4294967295)) :
    ans c o lo < ans c o hi := by
  cases c
  · exact pp_mono_left lo hi o h l0 h1 o0 o1 hne
  · exact pp_mono_right lo hi o h l0 h1 o0 o1 hne
end Go.Proofs.Qxb6600613a.pair
