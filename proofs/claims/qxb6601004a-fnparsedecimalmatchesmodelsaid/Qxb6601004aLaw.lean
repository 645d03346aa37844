/-
  The walk of 'FnParseDecimalMatchesModel' (function 3). Ours.
-/
import Derived.Test.Qxb6601004aMp
namespace Go.Proofs.Qxb6601004a
open Go.RowKit
set_option linter.unusedVariables false

theorem mp_nil (ao : Option Addr) (w : World) : Calls Try.prog 8 #[.slice ao 0 0] w fun e w' => e = .returned (.tuple #[.int .i64 0, .bool false]) ∧ w' = w := by
  go_enter Try.func8, Try.ntmps8
  go_wp2
  go_ret2
  exact ⟨rfl, rfl⟩

theorem mp_bare (g : Nat) (w : World) (c0 : w.cell? ⟨g, 0, none⟩ = some (.int .u8 45)) :
    Calls Try.prog 8 #[.slice (some ⟨g, 0, none⟩) 1 1] w fun e w' => e = .returned (.tuple #[.int .i64 0, .bool false]) ∧ w' = w := by
  go_enter Try.func8, Try.ntmps8
  go_wp2
  go_ret2
  exact ⟨rfl, rfl⟩

/-- What the model answers. -/
theorem mp_any (g len : Nat) (L : List Int) (w : World) (hL : L.length = len) (hlen : len ≤ 1048576) (hr : ∀ c ∈ L, 0 ≤ c ∧ c ≤ 255)
    (hc : ∀ j, j < len → w.cell? ⟨g, j, none⟩ = some (.int .u8 (nth L j))) (a : Int) (b : Bool) (hp : Hid (parsed L = (a, b))) :
    Calls Try.prog 8 #[.slice (some ⟨g, 0, none⟩) len len] w fun e w' => e = .returned (.tuple #[.int .i64 a, .bool b]) ∧ ∃ nq, w' = w.drewN nq := by
  have hpo := hp.out
  by_cases h0 : len = 0
  · subst h0
    have e : parsed L = (0, false) := by
      unfold parsed negOf
      rw [hL]
      exact res_empty false L hL
    obtain ⟨rfl, rfl⟩ := Prod.mk.inj (e.symm.trans hpo)
    exact (mp_nil _ w).mono fun e w' h => ⟨h.1, 0, h.2⟩
  by_cases hs : nth L 0 = 45
  · have e : parsed L = res true L.tail := by
      unfold parsed negOf
      rw [if_pos (by simp [hs]; omega)]
    have c0 := hc 0 (by omega)
    rw [hs] at c0
    by_cases h1 : len = 1
    · subst h1
      rw [res_empty true L.tail (by simp [hL])] at e
      obtain ⟨rfl, rfl⟩ := Prod.mk.inj (e.symm.trans hpo)
      exact (mp_bare g w c0).mono fun e w' h => ⟨h.1, 0, h.2⟩
    · rw [← List.drop_one] at e
      exact mp_neg g len L w hL (by omega) hlen (fun j => nth_range L hr j) hc hs a b (e.symm.trans hpo)
  · have e : parsed L = res false (L.drop 0) := by
      unfold parsed negOf
      rw [if_neg (by simp [hs]), List.drop_zero]
    exact mp_pos g len L w hL (by omega) hlen (fun j => nth_range L hr j) hc (by simpa using hs) a b (e.symm.trans hpo)

set_option maxHeartbeats 1000000 in
/-- The slice is not nil. -/
theorem law_some (x : Addr) (len cap : Nat) (L : List Int) (w : World) (hL : L.length = len) (hc : ∀ j, j < len → w.cell? (x.add j) = some (.int .u8 (nth L j))) (hlen : len ≤ 1048576) (hr : Hid (∀ c ∈ L, 0 ≤ c ∧ c ≤ 255)) :
    Calls Try.prog 3 #[.slice (some x) len cap] w fun e w' => e = .returned (.bool true) ∧ Below w.heap.size w w' := by
  obtain ⟨a, b, hp⟩ : ∃ a b, Hid (parsed L = (a, b)) := ⟨_, _, rfl⟩
  go_enter Try.func3, Try.ntmps3
  go_wp2_with fail
  refine (zz5_true (some x) len cap _ hlen).mono ?_
  rintro e w' ⟨rfl, rfl⟩
  go_wp2_with fail
  refine (clone_some x len cap L _ hL hc hlen).mono ?_
  rintro e w1 ⟨rfl, hs1, hc1, hb1⟩
  clear hc
  go_wp2_with fail
  refine (zzpd_any w'.heap.size 0 len len L _ hL (by omega) (Nat.le_refl _) (by omega) hr.out (fun j hj => by rw [Nat.zero_add]; exact hc1 j hj) a b hp).mono ?_
  rintro e w2 ⟨rfl, rfl⟩
  go_wp2_with fail
  refine (mp_any w'.heap.size len L _ hL hlen hr.out hc1 a b hp).mono ?_
  rintro e w3 ⟨rfl, nq, rfl⟩
  clear hc1
  go_wp2
  go_ret
  exact ⟨rfl, hb1.trans ⟨rfl, rfl, rfl, Nat.le_refl _, fun _ _ => rfl⟩⟩

/-- The slice is nil. -/
theorem law_nil (w : World) : Calls Try.prog 3 #[.slice none 0 0] w fun e w' => e = .returned (.bool true) ∧ Below w.heap.size w w' := by
  go_enter Try.func3, Try.ntmps3
  go_wp2_with fail
  refine (zz5_true none 0 0 _ (by omega)).mono ?_
  rintro e w' ⟨rfl, rfl⟩
  go_wp2_with fail
  refine (clone_nil _).mono ?_
  rintro e w1 ⟨rfl, rfl⟩
  go_wp2_with fail
  refine (zzpd_nil _).mono ?_
  rintro e w2 ⟨rfl, rfl⟩
  go_wp2_with fail
  refine (mp_nil none _).mono ?_
  rintro e w3 ⟨rfl, rfl⟩
  go_wp2
  go_ret
  exact ⟨rfl, Below.refl _ _⟩

/-- Too long: the law's own first test. -/
theorem law_long (ao : Option Addr) (len cap : Nat) (w : World) (h : 1048576 < len) (h0 : len ≤ 9223372036854775807) :
    Calls Try.prog 3 #[.slice ao len cap] w fun e w' => e = .returned (.bool true) ∧ Below w.heap.size w w' := by
  go_enter Try.func3, Try.ntmps3
  go_wp2_with fail
  refine (zz5_false ao len cap _ h h0).mono ?_
  rintro e w' ⟨rfl, rfl⟩
  go_wp2
  go_ret
  exact ⟨rfl, Below.refl _ _⟩
end Go.Proofs.Qxb6601004a
