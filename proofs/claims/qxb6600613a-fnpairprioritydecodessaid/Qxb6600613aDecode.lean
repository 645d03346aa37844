/-
  The walk of 'iceb1Decode' (function 8): what it reads off a word that a pair of priorities below 2^31 yields. Ours.
-/
import Derived.Test.Qxb6600613aPair
import Derived.Laws.BitsAllLaws
namespace Go.Proofs.Qxb6600613a.pair
open Go.ChangeShapes Go.WideShapes Go.ChangeAt Go.RowKit
set_option linter.unusedVariables false

theorem low_word (p : Int) (h0 : 0 ≤ p) (h1 : p < 18446744073709551616) : bits .and .u64 p 4294967295 = p % 4294967296 := by
  rw [u64_and p 4294967295 h0 h1 (by decide) (by decide)]
  have e : p.toNat &&& (4294967295 : Int).toNat = p.toNat % 4294967296 := Nat.and_two_pow_sub_one_eq_mod p.toNat 32
  rw [e]
  omega

theorem low_bit (p : Int) (h0 : 0 ≤ p) (h1 : p < 18446744073709551616) : bits .and .u64 p 1 = p % 2 := by
  rw [u64_and p 1 h0 h1 (by decide) (by decide)]
  have e : p.toNat &&& (1 : Int).toNat = p.toNat % 2 := Nat.and_two_pow_sub_one_eq_mod p.toNat 1
  rw [e]
  omega

set_option maxHeartbeats 400000 in
/-- The low bit is set. -/
theorem dec_one (p hi lo mx : Int) (p0 : 0 ≤ p) (p1 : p ≤ 18446744073709551615) (k1 : p / 4294967296 = hi) (k2 : bits .and .u64 p 4294967295 = lo) (l0 : 0 ≤ lo) (l1 : lo ≤ 4294967295)
    (k3 : lo / 2 = mx) (k4 : bits .and .u64 lo 1 = 1) (h : hi < mx) (w : World) :
    Calls Try.prog 8 #[.int .u64 p] w fun e w' => e = .returned (.tuple #[.int .u64 mx, .int .u64 hi, .bool true]) ∧ w' = w := by
  go_enter Try.func8, Try.ntmps8
  go_wp2
  go_ret3
  exact ⟨rfl, rfl⟩

set_option maxHeartbeats 400000 in
/-- The low bit is not set. -/
theorem dec_nought (p hi lo mx : Int) (p0 : 0 ≤ p) (p1 : p ≤ 18446744073709551615) (k1 : p / 4294967296 = hi) (k2 : bits .and .u64 p 4294967295 = lo) (l0 : 0 ≤ lo) (l1 : lo ≤ 4294967295)
    (k3 : lo / 2 = mx) (k4 : bits .and .u64 lo 1 = 0) (h : hi ≤ mx) (w : World) :
    Calls Try.prog 8 #[.int .u64 p] w fun e w' => e = .returned (.tuple #[.int .u64 hi, .int .u64 mx, .bool true]) ∧ w' = w := by
  go_enter Try.func8, Try.ntmps8
  go_wp2
  go_ret3
  exact ⟨rfl, rfl⟩

/-- A pair's priority is read back: the controlling host's candidate and the controlled host's. -/
theorem dec_pp (g d : Int) (g0 : 0 ≤ g) (g1 : g < 2147483648) (d0 : 0 ≤ d) (d1 : d < 2147483648) (w : World) :
    Calls Try.prog 8 #[.int .u64 (pp g d)] w fun e w' => e = .returned (.tuple #[.int .u64 g, .int .u64 d, .bool true]) ∧ w' = w := by
  have hr := pp_range g d
  by_cases h : d < g
  · have e := pp_gt g d h d0 (by omega)
    exact dec_one (pp g d) d (pp g d % 4294967296) g hr.1 (by omega) (by omega) (low_word _ hr.1 hr.2) (by omega) (by omega) (by omega) (by rw [low_bit _ (by omega) (by omega)]; omega) h w
  · have e : pp g d = 4294967296 * g + 2 * d := by
      by_cases h2 : g < d
      · exact pp_lt g d h2 g0 (by omega)
      · have e : g = d := by omega
        subst e
        exact pp_eq g g0 (by omega)
    exact dec_nought (pp g d) g (pp g d % 4294967296) d hr.1 (by omega) (by omega) (low_word _ hr.1 hr.2) (by omega) (by omega) (by omega) (by rw [low_bit _ (by omega) (by omega)]; omega) (by omega) w
end Go.Proofs.Qxb6600613a.pair
