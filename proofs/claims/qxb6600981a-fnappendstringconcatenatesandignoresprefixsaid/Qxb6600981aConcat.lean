/-
  The walk of 'FnAppendStringConcatenatesAndIgnoresPrefix' (function 4). Ours.
-/
import Derived.Test.Qxb6600981aApp
import Derived.Deep.QuietTactic
import Derived.BigQuiet
namespace Go.Proofs.Qxb6600981a
open Go.RowKit
set_option linter.unusedVariables false

theorem bel_drewN {B : Nat} {a w : World} (h : Below B a w) (n : Nat) : Below B a (w.drewN n) := h.trans ⟨rfl, rfl, rfl, Nat.le_refl _, fun _ _ => rfl⟩

set_option maxRecDepth 100000 in
set_option maxHeartbeats 2000000 in
/-- The slice is not nil. -/
theorem concat_some (x : Addr) (len cap : Nat) (xs : List Int) (s1 s2 : ByteArray) (w : World) (hx : xs.length = len) (hc : ∀ j, j < len → w.cell? (x.add j) = some (.int .u8 (nth xs j)))
    (hsum : len + s1.size + s2.size ≤ 1048576)
    (Wl P1 P2 Bl : List Int) (nW n1 n2 nB : Nat) (HW : Hid (Wl = [] ++ full (byt (s1 ++ s2)))) (H1 : Hid (P1 = [] ++ full (byt s1))) (H2 : Hid (P2 = [] ++ full (byt s2))) (HB : Hid (Bl = xs ++ full (byt (s1 ++ s2))))
    (LW : Hid (Wl.length = nW)) (L1 : Hid (P1.length = n1)) (L2 : Hid (P2.length = n2)) (LB : Hid (Bl.length = nB))
    (e1 : 2 ≤ n1) (e2 : 2 ≤ n2) (e3 : nW + 2 ≤ n1 + n2) (e3b : n1 + n2 ≤ nW + 2) (e4 : nB ≤ len + nW) (e4b : len + nW ≤ nB) (e5 : nW ≤ 4000000)
    (q1 : Hid (∀ i, i < n1 - 1 → nth Wl i = nth P1 i)) (q2 : Hid (∀ j, 1 ≤ j → j < n2 → nth Wl (n1 - 1 + j - 1) = nth P2 j))
    (q3 : Hid (∀ i, i < len → nth Bl i = nth xs i)) (q4 : Hid (∀ j, j < nW → nth Bl (len + j) = nth Wl j)) :
    Calls Try.prog 4 #[.slice (some x) len cap, .string s1, .string s2] w fun e w' => e = .returned (.bool true) ∧ Below w.heap.size w w' := by
  have d1 : decide (1048576 < (len : Int)) = false := by simp; omega
  have d2 : decide (1048576 < (s1.size : Int)) = false := by simp; omega
  have d3 : decide (1048576 < (s2.size : Int)) = false := by simp; omega
  have hss : (s1 ++ s2).size ≤ 1048576 := by rw [ByteArray.size_append]; omega
  go_enter Try.func4, Try.ntmps4
  go_wp2_with fail
  refine (zz9_true (some x) len cap s1 s2 _ hsum).mono ?_
  rintro e w' ⟨rfl, rfl⟩
  go_wp2_with fail
  refine (clone_some x len cap xs _ hx hc (by omega)).mono ?_
  rintro e w1 ⟨rfl, hs1, hc1, hb1⟩
  go_wp2_with fail
  have hcx : ∀ j, j < len → w1.cell? (x.add j) = some (.int .u8 (nth xs j)) := fun j hj => (hb1.cell (World.block_lt_of_cell? _ _ (hc j hj))).trans (hc j hj)
  refine (clone_some x len cap xs _ hx hcx (by omega)).mono ?_
  rintro e w2 ⟨rfl, hs2, hc2, hb2⟩
  clear hcx hc
  go_wp2_with fail
  refine (zz_app none 0 [] (s1 ++ s2) _ Wl nW HW LW (fun _ => rfl) rfl (by omega) hss (by intro b hb; cases hb)).mono ?_
  rintro e w3 ⟨gW, cW, rfl, hgW, hgW2, hcW, hb3⟩
  go_wp2_with fail
  refine (zz_app none 0 [] s1 _ P1 n1 H1 L1 (fun _ => rfl) rfl (by omega) (by omega) (by intro b hb; cases hb)).mono ?_
  rintro e w4 ⟨g1, c1, rfl, hg1, hg12, hcP1, hb4⟩
  go_wp2_with fail
  refine (zz_app none 0 [] s2 _ P2 n2 H2 L2 (fun _ => rfl) rfl (by omega) (by omega) (by intro b hb; cases hb)).mono ?_
  rintro e w5 ⟨g2, c2, rfl, hg2, hg22, hcP2, hb5⟩
  have kW : Hid (∀ j, j < nW → w5.cell? ⟨gW, j, none⟩ = some (.int .u8 (nth Wl j))) := fun j hj => ((hb5.cell (by show gW < _; have := hb4.size; omega)).trans (hb4.cell (by show gW < _; omega))).trans (hcW j hj)
  have k1 : Hid (∀ j, j < n1 → w5.cell? ⟨g1, j, none⟩ = some (.int .u8 (nth P1 j))) := fun j hj => (hb5.cell (by show g1 < _; omega)).trans (hcP1 j hj)
  have k2 : Hid (∀ j, j < n2 → w5.cell? ⟨g2, j, none⟩ = some (.int .u8 (nth P2 j))) := hcP2
  have hz1 := hb2.size
  have hz2 := hb3.size
  have hz3 := hb4.size
  have hz4 := hb5.size
  have kK : Hid (∀ j, j < len → w5.cell? ⟨w'.heap.size, j, none⟩ = some (.int .u8 (nth xs j))) := fun j hj =>
    ((((hb5.cell (by show w'.heap.size < _; omega)).trans (hb4.cell (by show w'.heap.size < _; omega))).trans (hb3.cell (by show w'.heap.size < _; omega))).trans (hb2.cell (by show w'.heap.size < _; omega))).trans (hc1 j hj)
  have kB : Hid (∀ j, j < len → w5.cell? ⟨w1.heap.size, j, none⟩ = some (.int .u8 (nth xs j))) := fun j hj =>
    (((hb5.cell (by show w1.heap.size < _; omega)).trans (hb4.cell (by show w1.heap.size < _; omega))).trans (hb3.cell (by show w1.heap.size < _; omega))).trans (hc2 j hj)
  have hbel : Hid (Below w'.heap.size w' w5) := (((hb1.trans (hb2.mono (by omega))).trans (hb3.mono (by omega))).trans (hb4.mono (by omega))).trans (hb5.mono (by omega))
  have hzW : gW < w5.heap.size := by omega
  have hzK : w'.heap.size < w5.heap.size := by omega
  clear hcW hcP1 hcP2 hc1 hc2 hb1 hb2 hb3 hb4 hb5
  go_wp2
  go_loopw [11] (fun i wr => ∃ k nq : Nat, k + 1 ≤ n1 ∧ i = .int .i64 k ∧ wr = w5.drewN nq) (fun i _ => n1 - (intOf i).toNat)
  case atStart => exact ⟨0, 0, by omega, rfl, rfl⟩
  case round =>
    obtain ⟨k, nq, hk, rfl, rfl⟩ := hrel
    by_cases hlt : k + 1 < n1
    · have f1 := kW.out k (by omega)
      have f2 := k1.out k (by omega)
      have f3 := q1.out k (by omega)
      go_wp2
      go_quiet (fail)
      go_wp2
      go_roundw
      case rel => exact ⟨k + 1, _, by omega, by go_num, rfl⟩
      case measure => simp [intOf]; omega
    · go_wp2
      go_loopw [13] (fun i wr => ∃ k nq : Nat, 1 ≤ k ∧ k ≤ n2 ∧ i = .int .i64 k ∧ wr = w5.drewN nq) (fun i _ => n2 - (intOf i).toNat)
      case atStart => exact ⟨1, nq, by omega, by omega, rfl, rfl⟩
      case round =>
        obtain ⟨k, nq, hk1, hk, rfl, rfl⟩ := hrel
        by_cases hlt : k < n2
        · have f1 := kW.out (n1 - 1 + k - 1) (by omega)
          have f2 := k2.out k (by omega)
          have f3 := q2.out k hk1 (by omega)
          go_wp2
          go_quiet (fail)
          go_wp2
          go_roundw
          case rel => exact ⟨k + 1, _, by omega, by omega, by go_num, rfl⟩
          case measure => simp [intOf]; omega
        · go_wp2_with fail
          refine (zz_app (some ⟨w1.heap.size, 0, none⟩) len xs (s1 ++ s2) _ Bl nB HB LB (by intro h; cases h) hx (by omega) hss (by intro b hb j hj; cases hb; rw [Addr.add_lit, Nat.zero_add]; exact kB.out j hj)).mono ?_
          rintro e w6 ⟨gB, cB, rfl, hgB, hgB2, hcB, hb6⟩
          have hgB3 : w5.heap.size ≤ gB := hgB
          have hz6 : w5.heap.size ≤ w6.heap.size := hb6.size
          have hbel6 : Hid (Below w'.heap.size w' w6) := (bel_drewN hbel.out nq).trans (hb6.mono (by show w'.heap.size ≤ w5.heap.size; omega))
          have mB : Hid (∀ j, j < nB → w6.cell? ⟨gB, j, none⟩ = some (.int .u8 (nth Bl j))) := hcB
          have mK : Hid (∀ j, j < len → w6.cell? ⟨w'.heap.size, j, none⟩ = some (.int .u8 (nth xs j))) := fun j hj => (hb6.cell (by show w'.heap.size < w5.heap.size; omega)).trans (kK.out j hj)
          have mW : Hid (∀ j, j < nW → w6.cell? ⟨gW, j, none⟩ = some (.int .u8 (nth Wl j))) := fun j hj => (hb6.cell (by show gW < w5.heap.size; omega)).trans (kW.out j hj)
          clear hcB hb6 hgB
          go_wp2
          go_loopw [15] (fun i wr => ∃ k nq : Nat, k ≤ len ∧ i = .int .i64 k ∧ wr = w6.drewN nq) (fun i _ => len - (intOf i).toNat)
          case atStart => exact ⟨0, 0, by omega, rfl, rfl⟩
          case round =>
            obtain ⟨k, nq, hk, rfl, rfl⟩ := hrel
            by_cases hlt : k < len
            · have f1 := mB.out k (by omega)
              have f2 := mK.out k (by omega)
              have f3 := q3.out k (by omega)
              go_wp2
              go_quiet (fail)
              go_wp2
              go_roundw
              case rel => exact ⟨k + 1, _, by omega, by go_num, rfl⟩
              case measure => simp [intOf]; omega
            · go_wp2
              go_loopw [16] (fun i wr => ∃ k nq : Nat, k ≤ nW ∧ i = .int .i64 k ∧ wr = w6.drewN nq) (fun i _ => nW - (intOf i).toNat)
              case atStart => exact ⟨0, nq, by omega, rfl, rfl⟩
              case round =>
                obtain ⟨k, nq, hk, rfl, rfl⟩ := hrel
                by_cases hlt : k < nW
                · have f1 := mB.out (len + k) (by omega)
                  have f2 := mW.out k (by omega)
                  have f3 := q4.out k (by omega)
                  go_wp2
                  go_quiet (fail)
                  go_wp2
                  go_roundw
                  case rel => exact ⟨k + 1, _, by omega, by go_num, rfl⟩
                  case measure => simp [intOf]; omega
                · go_wp2
                  go_ret
                  exact ⟨rfl, bel_drewN hbel6.out _⟩
set_option maxRecDepth 100000 in
set_option maxHeartbeats 2000000 in
/-- The slice is nil. -/
theorem concat_nil (s1 s2 : ByteArray) (w : World)
    (hsum : s1.size + s2.size ≤ 1048576)
    (Wl P1 P2 Bl : List Int) (nW n1 n2 nB : Nat) (HW : Hid (Wl = [] ++ full (byt (s1 ++ s2)))) (H1 : Hid (P1 = [] ++ full (byt s1))) (H2 : Hid (P2 = [] ++ full (byt s2))) (HB : Hid (Bl = [] ++ full (byt (s1 ++ s2))))
    (LW : Hid (Wl.length = nW)) (L1 : Hid (P1.length = n1)) (L2 : Hid (P2.length = n2)) (LB : Hid (Bl.length = nB))
    (e1 : 2 ≤ n1) (e2 : 2 ≤ n2) (e3 : nW + 2 ≤ n1 + n2) (e3b : n1 + n2 ≤ nW + 2) (e4 : nB ≤ nW) (e4b : nW ≤ nB) (e5 : nW ≤ 4000000)
    (q1 : Hid (∀ i, i < n1 - 1 → nth Wl i = nth P1 i)) (q2 : Hid (∀ j, 1 ≤ j → j < n2 → nth Wl (n1 - 1 + j - 1) = nth P2 j))
    (q4 : Hid (∀ j, j < nW → nth Bl j = nth Wl j)) :
    Calls Try.prog 4 #[.slice none 0 0, .string s1, .string s2] w fun e w' => e = .returned (.bool true) ∧ Below w.heap.size w w' := by
  have d2 : decide (1048576 < (s1.size : Int)) = false := by simp; omega
  have d3 : decide (1048576 < (s2.size : Int)) = false := by simp; omega
  have hss : (s1 ++ s2).size ≤ 1048576 := by rw [ByteArray.size_append]; omega
  go_enter Try.func4, Try.ntmps4
  go_wp2_with fail
  refine (zz9_true none 0 0 s1 s2 _ (by omega)).mono ?_
  rintro e w' ⟨rfl, rfl⟩
  go_wp2_with fail
  refine (clone_nil _).mono ?_
  rintro e w1 ⟨rfl, rfl⟩
  go_wp2_with fail
  refine (clone_nil _).mono ?_
  rintro e w2 ⟨rfl, rfl⟩
  go_wp2_with fail
  refine (zz_app none 0 [] (s1 ++ s2) _ Wl nW HW LW (fun _ => rfl) rfl (by omega) hss (by intro b hb; cases hb)).mono ?_
  rintro e w3 ⟨gW, cW, rfl, hgW, hgW2, hcW, hb3⟩
  go_wp2_with fail
  refine (zz_app none 0 [] s1 _ P1 n1 H1 L1 (fun _ => rfl) rfl (by omega) (by omega) (by intro b hb; cases hb)).mono ?_
  rintro e w4 ⟨g1, c1, rfl, hg1, hg12, hcP1, hb4⟩
  go_wp2_with fail
  refine (zz_app none 0 [] s2 _ P2 n2 H2 L2 (fun _ => rfl) rfl (by omega) (by omega) (by intro b hb; cases hb)).mono ?_
  rintro e w5 ⟨g2, c2, rfl, hg2, hg22, hcP2, hb5⟩
  have kW : Hid (∀ j, j < nW → w5.cell? ⟨gW, j, none⟩ = some (.int .u8 (nth Wl j))) := fun j hj => ((hb5.cell (by show gW < _; have := hb4.size; omega)).trans (hb4.cell (by show gW < _; omega))).trans (hcW j hj)
  have k1 : Hid (∀ j, j < n1 → w5.cell? ⟨g1, j, none⟩ = some (.int .u8 (nth P1 j))) := fun j hj => (hb5.cell (by show g1 < _; omega)).trans (hcP1 j hj)
  have k2 : Hid (∀ j, j < n2 → w5.cell? ⟨g2, j, none⟩ = some (.int .u8 (nth P2 j))) := hcP2
  have hz2 := hb3.size
  have hz3 := hb4.size
  have hz4 := hb5.size
  have hbel : Hid (Below w2.heap.size w2 w5) := (hb3.trans (hb4.mono (by omega))).trans (hb5.mono (by omega))
  have hzW : gW < w5.heap.size := by omega
  clear hcW hcP1 hcP2 hb3 hb4 hb5
  go_wp2
  go_loopw [11] (fun i wr => ∃ k nq : Nat, k + 1 ≤ n1 ∧ i = .int .i64 k ∧ wr = w5.drewN nq) (fun i _ => n1 - (intOf i).toNat)
  case atStart => exact ⟨0, 0, by omega, rfl, rfl⟩
  case round =>
    obtain ⟨k, nq, hk, rfl, rfl⟩ := hrel
    by_cases hlt : k + 1 < n1
    · have f1 := kW.out k (by omega)
      have f2 := k1.out k (by omega)
      have f3 := q1.out k (by omega)
      go_wp2
      go_quiet (fail)
      go_wp2
      go_roundw
      case rel => exact ⟨k + 1, _, by omega, by go_num, rfl⟩
      case measure => simp [intOf]; omega
    · go_wp2
      go_loopw [13] (fun i wr => ∃ k nq : Nat, 1 ≤ k ∧ k ≤ n2 ∧ i = .int .i64 k ∧ wr = w5.drewN nq) (fun i _ => n2 - (intOf i).toNat)
      case atStart => exact ⟨1, nq, by omega, by omega, rfl, rfl⟩
      case round =>
        obtain ⟨k, nq, hk1, hk, rfl, rfl⟩ := hrel
        by_cases hlt : k < n2
        · have f1 := kW.out (n1 - 1 + k - 1) (by omega)
          have f2 := k2.out k (by omega)
          have f3 := q2.out k hk1 (by omega)
          go_wp2
          go_quiet (fail)
          go_wp2
          go_roundw
          case rel => exact ⟨k + 1, _, by omega, by omega, by go_num, rfl⟩
          case measure => simp [intOf]; omega
        · go_wp2_with fail
          refine (zz_app none 0 [] (s1 ++ s2) _ Bl nB HB LB (fun _ => rfl) rfl (by omega) hss (by intro b hb; cases hb)).mono ?_
          rintro e w6 ⟨gB, cB, rfl, hgB, hgB2, hcB, hb6⟩
          have hgB3 : w5.heap.size ≤ gB := hgB
          have hz6 : w5.heap.size ≤ w6.heap.size := hb6.size
          have hbel6 : Hid (Below w2.heap.size w2 w6) := (bel_drewN hbel.out nq).trans (hb6.mono (by show w2.heap.size ≤ w5.heap.size; omega))
          have mB : Hid (∀ j, j < nB → w6.cell? ⟨gB, j, none⟩ = some (.int .u8 (nth Bl j))) := hcB
          have mW : Hid (∀ j, j < nW → w6.cell? ⟨gW, j, none⟩ = some (.int .u8 (nth Wl j))) := fun j hj => (hb6.cell (by show gW < w5.heap.size; omega)).trans (kW.out j hj)
          clear hcB hb6 hgB
          go_wp2
          go_loopw [15] (fun i wr => ∃ k nq : Nat, k = 0 ∧ i = .int .i64 k ∧ wr = w6.drewN nq) (fun i _ => 0 - (intOf i).toNat)
          case atStart => exact ⟨0, 0, by omega, rfl, rfl⟩
          case round =>
            obtain ⟨k, nq, hk, rfl, rfl⟩ := hrel
            subst hk
            · go_wp2
              go_loopw [16] (fun i wr => ∃ k nq : Nat, k ≤ nW ∧ i = .int .i64 k ∧ wr = w6.drewN nq) (fun i _ => nW - (intOf i).toNat)
              case atStart => exact ⟨0, nq, by omega, rfl, rfl⟩
              case round =>
                obtain ⟨k, nq, hk, rfl, rfl⟩ := hrel
                by_cases hlt : k < nW
                · have f1 := mB.out k (by omega)
                  have f2 := mW.out k (by omega)
                  have f3 := q4.out k (by omega)
                  go_wp2
                  go_quiet (fail)
                  go_wp2
                  go_roundw
                  case rel => exact ⟨k + 1, _, by omega, by go_num, rfl⟩
                  case measure => simp [intOf]; omega
                · go_wp2
                  go_ret
                  exact ⟨rfl, bel_drewN hbel6.out _⟩
end Go.Proofs.Qxb6600981a
