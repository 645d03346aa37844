/-
  The walk of 'FnAppendIntCanonical' (function 4). Ours.
-/
import Derived.Test.Qxb6601004aDoorAppend
namespace Go.Proofs.Qxb6601004aDoor
open Go.RowKit
set_option linter.unusedVariables false

set_option maxRecDepth 100000 in
set_option maxHeartbeats 1000000 in
/-- A negative number. -/
theorem canon_neg (i : Int) (h0 : -9223372036854775808 ≤ i) (h1 : i ≤ 9223372036854775807) (w : World) (htab : Tab w) (m : Nat) (hm : Hid ((txt i).length = m)) (m1 : 2 ≤ m) (m2 : m ≤ 20) (hs : i < 0) (HF : Hid (nth (txt i) 0 = 45 ∧ nth (txt i) 1 ≠ 48 ∧ ∀ j, 1 ≤ j → j < m → 48 ≤ nth (txt i) j ∧ nth (txt i) j ≤ 57)) :
    Calls Tryd.prog 4 #[.int .i64 i] w fun e w' => e = .returned (.bool true) ∧ Below w.heap.size w w' := by
  have d0 : decide ((m : Int) + 2 < 3) = false := decide_eq_false (by omega)
  obtain ⟨T, hT⟩ : ∃ T, T = txt i := ⟨_, rfl⟩
  rw [← hT] at HF
  go_enter Tryd.func4, Tryd.ntmps4
  go_wp2_with fail
  refine (ai_any i h0 h1 _ htab m hm).mono ?_
  rintro e w' ⟨g, cap, rfl, c1, c2, k0, kT, k1, hb⟩
  rw [← hT] at kT
  have HB : Hid (Below w.heap.size w w') := hb
  have HT : Hid (∀ j, j < m → w'.cell? ⟨g, 1 + j, none⟩ = some (.int .u8 (nth T j))) := kT
  clear kT hb hT htab hm
  have HD : Hid (∀ j, 1 ≤ j → j < m → 48 ≤ nth T j ∧ nth T j ≤ 57) := HF.out.2.2
  have t0 := HT.out 0 (by omega)
  rw [HF.out.1, Nat.add_zero] at t0
  have t1 := HT.out 1 (by omega)
  have f1 : (nth T 1 == 48) = false := beq_eq_false_iff_ne.2 HF.out.2.1
  have f2 : decide ((m : Int) < 2) = false := decide_eq_false (by omega)
  have f3 : (i == 0) = false := beq_eq_false_iff_ne.2 (by omega)
  have f4 : ((m : Int) == 1) = false := beq_eq_false_iff_ne.2 (by omega)
  go_wp2
  go_loop [6] (fun t => ∃ k : Nat, 1 ≤ k ∧ k ≤ m ∧ t = .int .i64 k) (fun t => m - (intOf t).toNat)
  case atStart => exact ⟨1, by omega, by omega, rfl⟩
  case round =>
    obtain ⟨k, hk0, hk, rfl⟩ := hrel
    by_cases hlt : k < m
    · have cc := HT.out k hlt
      obtain ⟨cr0, cr1⟩ := HD.out k hk0 hlt
      have e1 : decide (nth T k < 48) = false := decide_eq_false (by omega)
      have e2 : decide (57 < nth T k) = false := decide_eq_false (by omega)
      go_wp2
      go_round
      case rel => exact ⟨k + 1, by omega, by omega, by go_num⟩
      case measure => simp [intOf]; omega
    · go_wp2
      go_ret
      exact ⟨rfl, HB.out⟩

set_option maxRecDepth 100000 in
set_option maxHeartbeats 1000000 in
/-- A number above 0. -/
theorem canon_pos (i : Int) (h0 : -9223372036854775808 ≤ i) (h1 : i ≤ 9223372036854775807) (w : World) (htab : Tab w) (m : Nat) (hm : Hid ((txt i).length = m)) (m1 : 1 ≤ m) (m2 : m ≤ 20) (hs : 0 < i) (HF : Hid (nth (txt i) 0 ≠ 48 ∧ ∀ j, 0 ≤ j → j < m → 48 ≤ nth (txt i) j ∧ nth (txt i) j ≤ 57)) :
    Calls Tryd.prog 4 #[.int .i64 i] w fun e w' => e = .returned (.bool true) ∧ Below w.heap.size w w' := by
  have d0 : decide ((m : Int) + 2 < 3) = false := decide_eq_false (by omega)
  obtain ⟨T, hT⟩ : ∃ T, T = txt i := ⟨_, rfl⟩
  rw [← hT] at HF
  go_enter Tryd.func4, Tryd.ntmps4
  go_wp2_with fail
  refine (ai_any i h0 h1 _ htab m hm).mono ?_
  rintro e w' ⟨g, cap, rfl, c1, c2, k0, kT, k1, hb⟩
  rw [← hT] at kT
  have HB : Hid (Below w.heap.size w w') := hb
  have HT : Hid (∀ j, j < m → w'.cell? ⟨g, 1 + j, none⟩ = some (.int .u8 (nth T j))) := kT
  clear kT hb hT htab hm
  have HD : Hid (∀ j, 0 ≤ j → j < m → 48 ≤ nth T j ∧ nth T j ≤ 57) := HF.out.2
  have t0 := HT.out 0 (by omega)
  rw [Nat.add_zero] at t0
  have hd0 := HD.out 0 (by omega) (by omega)
  have f1 : (nth T 0 == 45) = false := beq_eq_false_iff_ne.2 (by omega)
  have f2 : (nth T 0 == 48) = false := beq_eq_false_iff_ne.2 HF.out.1
  have f3 : (i == 0) = false := beq_eq_false_iff_ne.2 (by omega)
  clear hd0
  go_wp2
  go_loop [6] (fun t => ∃ k : Nat, 0 ≤ k ∧ k ≤ m ∧ t = .int .i64 k) (fun t => m - (intOf t).toNat)
  case atStart => exact ⟨0, by omega, by omega, rfl⟩
  case round =>
    obtain ⟨k, hk0, hk, rfl⟩ := hrel
    by_cases hlt : k < m
    · have cc := HT.out k hlt
      obtain ⟨cr0, cr1⟩ := HD.out k hk0 hlt
      have e1 : decide (nth T k < 48) = false := decide_eq_false (by omega)
      have e2 : decide (57 < nth T k) = false := decide_eq_false (by omega)
      go_wp2
      go_round
      case rel => exact ⟨k + 1, by omega, by omega, by go_num⟩
      case measure => simp [intOf]; omega
    · go_wp2
      all_goals
        go_ret
        exact ⟨by simp, HB.out⟩

/-- What the numeral of a negative number holds. -/
theorem facts_neg (i : Int) (h : i < 0) (m : Nat) (hm : (txt i).length = m) : nth (txt i) 0 = 45 ∧ nth (txt i) 1 ≠ 48 ∧ ∀ j, 1 ≤ j → j < m → 48 ≤ nth (txt i) j ∧ nth (txt i) j ≤ 57 := by
  rw [txt_neg i h] at hm ⊢
  have hs : ∀ j, nth (45 :: digI i.natAbs) (1 + j) = nth (digI i.natAbs) j := fun j => nth_right [45] (digI i.natAbs) j
  refine ⟨rfl, ?_, fun j h1 h2 => ?_⟩
  · have := hs 0
    rw [Nat.add_zero] at this
    rw [this]
    exact digI_head _ (by omega)
  · obtain ⟨q, rfl⟩ : ∃ q, j = 1 + q := ⟨j - 1, by omega⟩
    rw [hs q]
    exact digI_digs _ q (by simp only [List.length_cons] at hm; omega)
theorem facts_pos (i : Int) (h : 0 < i) (m : Nat) (hm : (txt i).length = m) : nth (txt i) 0 ≠ 48 ∧ ∀ j, 0 ≤ j → j < m → 48 ≤ nth (txt i) j ∧ nth (txt i) j ≤ 57 := by
  rw [txt_nonneg i (by omega)] at hm ⊢
  exact ⟨digI_head _ (by omega), fun j _ hj => digI_digs _ j (by omega)⟩
theorem txt_zero : txt 0 = [48] := by
  rw [txt_nonneg 0 (by decide)]
  exact digI_small 0 (by decide)

set_option maxRecDepth 100000 in
set_option maxHeartbeats 1000000 in
/-- Nought. -/
theorem canon_zero (w : World) (htab : Tab w) : Calls Tryd.prog 4 #[.int .i64 0] w fun e w' => e = .returned (.bool true) ∧ Below w.heap.size w w' := by
  go_enter Tryd.func4, Tryd.ntmps4
  go_wp2_with fail
  refine (ai_any 0 (by decide) (by decide) _ htab 1 (by show (txt 0).length = 1; rw [txt_zero]; rfl)).mono ?_
  rintro e w' ⟨g, cap, rfl, c1, c2, k0, kT, k1, hb⟩
  have t0 := kT 0 (by decide)
  rw [txt_zero] at t0
  have t0 : w'.cell? ⟨g, 1, none⟩ = some (.int .u8 48) := t0
  have HB : Hid (Below w.heap.size w w') := hb
  clear kT hb htab
  go_wp2
  go_loop [6] (fun t => ∃ k : Nat, k ≤ 1 ∧ t = .int .i64 k) (fun t => 1 - (intOf t).toNat)
  case atStart => exact ⟨0, by omega, rfl⟩
  case round =>
    obtain ⟨k, hk, rfl⟩ := hrel
    by_cases hlt : k < 1
    · obtain rfl : k = 0 := by omega
      go_wp2
      go_round
      case rel => exact ⟨1, by omega, by go_num⟩
      case measure => simp [intOf]
    · go_wp2
      go_ret
      exact ⟨rfl, HB.out⟩

/-- The law's walk. -/
theorem canon_any (i : Int) (h0 : -9223372036854775808 ≤ i) (h1 : i ≤ 9223372036854775807) (w : World) (htab : Tab w) : Calls Tryd.prog 4 #[.int .i64 i] w fun e w' => e = .returned (.bool true) ∧ Below w.heap.size w w' := by
  obtain ⟨l1, l2⟩ := txt_length i h0 h1
  by_cases hn : i < 0
  · have hl : 2 ≤ (txt i).length := by
      rw [txt_neg i hn]
      have := digI_pos i.natAbs
      simp only [List.length_cons]
      omega
    exact canon_neg i h0 h1 w htab _ rfl hl l2 hn (facts_neg i hn _ rfl)
  by_cases hz : i = 0
  · subst hz
    exact canon_zero w htab
  · exact canon_pos i h0 h1 w htab _ rfl l1 l2 (by omega) (facts_pos i (by omega) _ rfl)
end Go.Proofs.Qxb6601004aDoor
