/-
  The walk of 'parseDecimal' (function 8) and of its shim (function 6). Ours.
-/
import Derived.Test.Qxb6601004aDoorPlain
import Derived.Test.Qxb6601004aDoorRows
import Derived.WalkKit
import Derived.WalkSpells
namespace Go.Proofs.Qxb6601004aDoor
open Go.RowKit
set_option linter.unusedVariables false

theorem ret_pair {a b : Int} {p q : Bool} (h1 : a = b) (h2 : p = q) : Ending.returned (.tuple #[.int .i64 a, .bool p]) = .returned (.tuple #[.int .i64 b, .bool q]) := by rw [h1, h2]

theorem pd_nil (ao : Option Addr) (w : World) (cap : Nat) : Calls Tryd.prog 8 #[.slice ao 0 cap] w fun e w' => e = .returned (.tuple #[.int .i64 0, .bool false]) ∧ w' = w := by
  go_enter Tryd.func8, Tryd.ntmps8
  go_wp2
  go_ret2
  exact ⟨rfl, rfl⟩

set_option maxHeartbeats 2000000 in
/-- No sign ahead of the digits. -/
theorem pd_pos (g o len cap : Nat) (D : List Int) (w : World) (hD : D.length = len) (h1 : 1 ≤ len) (hlen : len ≤ 4000000) (hlc : len ≤ cap) (hr : Hid (∀ j, 0 ≤ nth D j ∧ nth D j ≤ 255))
    (hc : Hid (∀ j, j < len → w.cell? ⟨g, o + j, none⟩ = some (.int .u8 (nth D j)))) (hs : (nth D 0 == 45) = false) :
    Calls Tryd.prog 8 #[.slice (some ⟨g, o, none⟩) len cap] w fun e w' => e = .returned (.tuple #[.int .i64 (res false D).1, .bool (res false D).2]) ∧ w' = w := by
  have c0 := hc.out 0 (by omega)
  rw [Nat.add_zero] at c0
  have d0 : decide (0 < (len : Int)) = true := decide_eq_true (by omega)
  have d1 : ((len : Int) == 0) = false := by simp; omega
  have hz : Hid (dvk D 0 = 0) := dvk_zero D
  go_enter Tryd.func8, Tryd.ntmps8
  go_wp2
  clear c0 hs
  go_loop [5, 25] (fun t i => ∃ k : Nat, k ≤ len ∧ i = .int .i64 k ∧ t = .int .u64 (dvk D k) ∧ dvk D k ≤ 9223372036854775808 ∧ Hid (digs D k)) (fun _ i => len - (intOf i).toNat)
  case atStart => exact ⟨0, Nat.zero_le _, rfl, by rw [hz.out], by rw [hz.out]; omega, fun i hi => absurd hi (Nat.not_lt_zero i)⟩
  case round =>
    obtain ⟨k, hk, rfl, rfl, hv, hdg⟩ := hrel
    have h0 := dvk_nonneg D k (by omega) hdg.out
    by_cases hlt : k < len
    · have cc := hc.out k hlt
      obtain ⟨cr0, cr1⟩ := hr.out k
      have hsu : Hid (dvk D (k + 1) = dvk D k * 10 + (nth D k - 48)) := dvk_succ D k (by omega)
      by_cases b1 : nth D k < 48
      · have R : Hid (res false D = (0, false)) := res_bad false D k (by omega) (by omega)
        have e1 : decide (nth D k < 48) = true := by simpa using b1
        go_wp2
        go_ret2
        exact ⟨ret_pair (by rw [R.out]) (by rw [R.out]), rfl⟩
      have e1 : decide (nth D k < 48) = false := by simpa using b1
      by_cases b2 : 57 < nth D k
      · have R : Hid (res false D = (0, false)) := res_bad false D k (by omega) (by omega)
        have e2 : decide (57 < nth D k) = true := by simpa using b2
        go_wp2
        go_ret2
        exact ⟨ret_pair (by rw [R.out]) (by rw [R.out]), rfl⟩
      have e2 : decide (57 < nth D k) = false := by simpa using b2
      by_cases b3 : 922337203685477580 < dvk D k
      · have R : Hid (res false D = (0, false)) := res_big false D (k + 1) (by omega) (by rw [hsu.out]; omega)
        have e3 : decide (922337203685477580 < dvk D k) = true := by simpa using b3
        go_wp2
        go_ret2
        exact ⟨ret_pair (by rw [R.out]) (by rw [R.out]), rfl⟩
      have e3 : decide (922337203685477580 < dvk D k) = false := by simpa using b3
      by_cases b4 : 9223372036854775808 < dvk D k * 10 + (nth D k - 48)
      · have R : Hid (res false D = (0, false)) := res_big false D (k + 1) (by omega) (by rw [hsu.out]; omega)
        go_wp2
        go_ret2
        exact ⟨ret_pair (by rw [R.out]) (by rw [R.out]), rfl⟩
      · go_wp2
        go_round
        case rel => exact ⟨k + 1, by omega, by go_num, by rw [hsu.out], by rw [hsu.out]; omega, fun i hi => by by_cases e : i < k; exact hdg.out i e; rw [show i = k by omega]; omega⟩
        case measure => simp [intOf]; omega
    · have ek : k = len := by omega
      have hdl : Hid (digs D D.length) := by rw [hD, ← ek]; exact hdg
      have hdv : Hid (dv D = dvk D k) := by rw [ek, ← hD]; exact (dvk_full D).symm
      clear ek
      by_cases b5 : dvk D k ≤ 9223372036854775807
      · have R : Hid (res false D = (dvk D k, true)) := by
          have := res_pos D (by omega) hdl.out (by rw [hdv.out]; exact b5)
          rwa [hdv.out] at this
        go_wp2
        go_ret2
        exact ⟨ret_pair (by rw [R.out]) (by rw [R.out]), rfl⟩
      · have R : Hid (res false D = (0, false)) := res_pos_big D (by rw [hdv.out]; omega)
        go_wp2
        go_ret2
        exact ⟨ret_pair (by rw [R.out]) (by rw [R.out]), rfl⟩

set_option maxHeartbeats 2000000 in
/-- A '-' ahead of the digits D. -/
theorem pd_neg (g o n cap : Nat) (D : List Int) (w : World) (hD : D.length = n) (h1 : 1 ≤ n) (hlen : n ≤ 4000000) (hlc : n + 1 ≤ cap) (hcm : cap ≤ 9223372036854775807) (hr : Hid (∀ j, 0 ≤ nth D j ∧ nth D j ≤ 255))
    (c0 : w.cell? ⟨g, o, none⟩ = some (.int .u8 45)) (hc : Hid (∀ j, j < n → w.cell? ⟨g, o + 1 + j, none⟩ = some (.int .u8 (nth D j)))) :
    Calls Tryd.prog 8 #[.slice (some ⟨g, o, none⟩) (n + 1) cap] w fun e w' => e = .returned (.tuple #[.int .i64 (res true D).1, .bool (res true D).2]) ∧ w' = w := by
  have d0 : decide (0 < (n : Int) + 1) = true := decide_eq_true (by omega)
  have d1 : ((n : Int) == 0) = false := by simp; omega
  have hz : Hid (dvk D 0 = 0) := dvk_zero D
  go_enter Tryd.func8, Tryd.ntmps8
  go_wp2
  clear c0
  go_loop [5, 25] (fun t i => ∃ k : Nat, k ≤ n ∧ i = .int .i64 k ∧ t = .int .u64 (dvk D k) ∧ dvk D k ≤ 9223372036854775808 ∧ Hid (digs D k)) (fun _ i => n - (intOf i).toNat)
  case atStart => exact ⟨0, Nat.zero_le _, rfl, by rw [hz.out], by rw [hz.out]; omega, fun i hi => absurd hi (Nat.not_lt_zero i)⟩
  case round =>
    obtain ⟨k, hk, rfl, rfl, hv, hdg⟩ := hrel
    have h0 := dvk_nonneg D k (by omega) hdg.out
    by_cases hlt : k < n
    · have cc := hc.out k hlt
      obtain ⟨cr0, cr1⟩ := hr.out k
      have hsu : Hid (dvk D (k + 1) = dvk D k * 10 + (nth D k - 48)) := dvk_succ D k (by omega)
      by_cases b1 : nth D k < 48
      · have R : Hid (res true D = (0, false)) := res_bad true D k (by omega) (by omega)
        have e1 : decide (nth D k < 48) = true := by simpa using b1
        go_wp2
        go_ret2
        exact ⟨ret_pair (by rw [R.out]) (by rw [R.out]), rfl⟩
      have e1 : decide (nth D k < 48) = false := by simpa using b1
      by_cases b2 : 57 < nth D k
      · have R : Hid (res true D = (0, false)) := res_bad true D k (by omega) (by omega)
        have e2 : decide (57 < nth D k) = true := by simpa using b2
        go_wp2
        go_ret2
        exact ⟨ret_pair (by rw [R.out]) (by rw [R.out]), rfl⟩
      have e2 : decide (57 < nth D k) = false := by simpa using b2
      by_cases b3 : 922337203685477580 < dvk D k
      · have R : Hid (res true D = (0, false)) := res_big true D (k + 1) (by omega) (by rw [hsu.out]; omega)
        have e3 : decide (922337203685477580 < dvk D k) = true := by simpa using b3
        go_wp2
        go_ret2
        exact ⟨ret_pair (by rw [R.out]) (by rw [R.out]), rfl⟩
      have e3 : decide (922337203685477580 < dvk D k) = false := by simpa using b3
      by_cases b4 : 9223372036854775808 < dvk D k * 10 + (nth D k - 48)
      · have R : Hid (res true D = (0, false)) := res_big true D (k + 1) (by omega) (by rw [hsu.out]; omega)
        go_wp2
        go_ret2
        exact ⟨ret_pair (by rw [R.out]) (by rw [R.out]), rfl⟩
      · go_wp2
        go_round
        case rel => exact ⟨k + 1, by omega, by go_num, by rw [hsu.out], by rw [hsu.out]; omega, fun i hi => by by_cases e : i < k; exact hdg.out i e; rw [show i = k by omega]; omega⟩
        case measure => simp [intOf]; omega
    · have ek : k = n := by omega
      have hdl : Hid (digs D D.length) := by rw [hD, ← ek]; exact hdg
      have hdv : Hid (dv D = dvk D k) := by rw [ek, ← hD]; exact (dvk_full D).symm
      clear ek
      have R : Hid (res true D = (-dvk D k, true)) := by
        have := res_neg D (by omega) hdl.out (by rw [hdv.out]; exact hv)
        rwa [hdv.out] at this
      by_cases b5 : dvk D k ≤ 9223372036854775807
      · go_wp2
        go_ret2
        exact ⟨ret_pair (by rw [R.out]) (by rw [R.out]), rfl⟩
      · go_wp2
        go_ret2
        exact ⟨ret_pair (by rw [R.out]; unfold wrap64; omega) (by rw [R.out]), rfl⟩

/-- A '-' and nothing behind it. -/
theorem pd_bare (g o cap : Nat) (w : World) (hlc : 1 ≤ cap) (hcm : cap ≤ 9223372036854775807) (c0 : w.cell? ⟨g, o, none⟩ = some (.int .u8 45)) :
    Calls Tryd.prog 8 #[.slice (some ⟨g, o, none⟩) 1 cap] w fun e w' => e = .returned (.tuple #[.int .i64 0, .bool false]) ∧ w' = w := by
  go_enter Tryd.func8, Tryd.ntmps8
  go_wp2
  all_goals
    go_ret2
    exact ⟨rfl, rfl⟩

theorem nth_range (L : List Int) (h : ∀ c ∈ L, 0 ≤ c ∧ c ≤ 255) (j : Nat) : 0 ≤ nth L j ∧ nth L j ≤ 255 := by
  unfold nth
  by_cases hj : j < L.length
  · have := h _ (List.getElem_mem hj)
    simpa [List.getD, hj] using this
  · simp [List.getD, hj]

/-- What parseDecimal answers. -/
theorem pd_any (g o len cap : Nat) (L : List Int) (w : World) (hL : L.length = len) (hlen : len ≤ 4000000) (hlc : len ≤ cap) (hcm : cap ≤ 9223372036854775807) (hr : ∀ c ∈ L, 0 ≤ c ∧ c ≤ 255)
    (hc : ∀ j, j < len → w.cell? ⟨g, o + j, none⟩ = some (.int .u8 (nth L j))) :
    Calls Tryd.prog 8 #[.slice (some ⟨g, o, none⟩) len cap] w fun e w' => e = .returned (.tuple #[.int .i64 (parsed L).1, .bool (parsed L).2]) ∧ w' = w := by
  by_cases h0 : len = 0
  · subst h0
    have e : parsed L = (0, false) := by
      unfold parsed negOf
      rw [hL]
      exact res_empty false L hL
    rw [e]
    exact pd_nil _ w cap
  by_cases hs : nth L 0 = 45
  · have e : parsed L = res true L.tail := by
      unfold parsed negOf
      rw [if_pos (by simp [hs]; omega)]
    rw [e]
    have c0 := hc 0 (by omega)
    rw [hs, Nat.add_zero] at c0
    by_cases h1 : len = 1
    · subst h1
      rw [res_empty true L.tail (by simp [hL])]
      exact pd_bare g o cap w hlc hcm c0
    · obtain ⟨n, rfl⟩ : ∃ n, len = n + 1 := ⟨len - 1, by omega⟩
      refine pd_neg g o n cap L.tail w (by simp [hL]) (by omega) (by omega) hlc hcm (fun j => ?_) c0 (fun j hj => ?_)
      · rw [nth_tail]; exact nth_range L hr (j + 1)
      · rw [nth_tail, show o + 1 + j = o + (j + 1) by omega]; exact hc (j + 1) (by omega)
  · have e : parsed L = res false L := by
      unfold parsed negOf
      rw [if_neg (by simp [hs])]
    rw [e]
    exact pd_pos g o len cap L w hL (by omega) hlen hlc (fun j => nth_range L hr j) hc (by simpa using hs)

theorem zzpd_any (g o len cap : Nat) (L : List Int) (w : World) (hL : L.length = len) (hlen : len ≤ 4000000) (hlc : len ≤ cap) (hcm : cap ≤ 9223372036854775807) (hr : ∀ c ∈ L, 0 ≤ c ∧ c ≤ 255)
    (hc : ∀ j, j < len → w.cell? ⟨g, o + j, none⟩ = some (.int .u8 (nth L j))) (a : Int) (b : Bool) (hp : Hid (parsed L = (a, b))) :
    Calls Tryd.prog 6 #[.slice (some ⟨g, o, none⟩) len cap] w fun e w' => e = .returned (.tuple #[.int .i64 a, .bool b]) ∧ w' = w := by
  have HC : Hid (∀ j, j < len → w.cell? ⟨g, o + j, none⟩ = some (.int .u8 (nth L j))) := hc
  clear hc
  go_enter Tryd.func6, Tryd.ntmps6
  go_wp2_with fail
  refine (pd_any g o len cap L _ hL hlen hlc hcm hr HC.out).mono ?_
  rw [hp.out]
  rintro e w' ⟨rfl, rfl⟩
  go_wp2
  go_ret2
  exact ⟨rfl, rfl⟩

theorem zzpd_nil (w : World) :
    Calls Tryd.prog 6 #[.slice none 0 0] w fun e w' => e = .returned (.tuple #[.int .i64 0, .bool false]) ∧ w' = w := by
  go_enter Tryd.func6, Tryd.ntmps6
  go_wp2
  go_ret2
  exact ⟨rfl, rfl⟩
end Go.Proofs.Qxb6601004aDoor
