/-
  The walk of 'FnAppendStringIsCanonicalJSONString' (function 3). Ours.
-/
import Derived.Test.Qxb6600981aParse
namespace Go.Proofs.Qxb6600981a
open Go.RowKit
set_option linter.unusedVariables false

theorem bel_drewN' {B : Nat} {a w : World} (h : Below B a w) (n : Nat) : Below B a (w.drewN n) := h.trans ⟨rfl, rfl, rfl, Nat.le_refl _, fun _ _ => rfl⟩

set_option maxRecDepth 100000 in
set_option maxHeartbeats 2000000 in
/-- The slice is not nil. -/
theorem canon_some (x : Addr) (len cap : Nat) (xs : List Int) (s : ByteArray) (w : World) (hx : xs.length = len) (hc : ∀ j, j < len → w.cell? (x.add j) = some (.int .u8 (nth xs j)))
    (hsum : len + s.size ≤ 1048576)
    (L : List Int) (N : Nat) (HL : Hid (L = xs ++ full (byt s))) (HN : Hid (L.length = N))
    (hN : N ≤ pos len s s.size + 1) (hN2 : pos len s s.size + 1 ≤ N)
    (q0 : Hid (nth L len = 34)) (q1 : Hid (∀ k i (h : k < s.size), i < (esc1 (s[k].toNat : Int)).length → nth L (pos len s k + i) = nth (esc1 (s[k].toNat : Int)) i)) (q2 : Hid (nth L (pos len s s.size) = 34))
    (q3 : Hid (∀ i, i < len → nth L i = nth xs i)) (hNl : len ≤ N) :
    Calls Try.prog 3 #[.slice (some x) len cap, .string s] w fun e w' => e = .returned (.bool true) ∧ Below w.heap.size w w' := by
  have d1 : decide (1048576 < (len : Int)) = false := by simp; omega
  have d2 : decide (1048576 < (s.size : Int)) = false := by simp; omega
  go_enter Try.func3, Try.ntmps3
  go_wp2_with fail
  refine (zz5_true (some x) len cap s _ hsum).mono ?_
  rintro e w' ⟨rfl, rfl⟩
  go_wp2_with fail
  refine (clone_some x len cap xs _ hx hc (by omega)).mono ?_
  rintro e w1 ⟨rfl, hs1, hc1, hb1⟩
  go_wp2_with fail
  have hcx : ∀ j, j < len → w1.cell? (x.add j) = some (.int .u8 (nth xs j)) := fun j hj => (hb1.cell (World.block_lt_of_cell? _ _ (hc j hj))).trans (hc j hj)
  refine (clone_some x len cap xs _ hx hcx (by omega)).mono ?_
  rintro e w2 ⟨rfl, hs2, hc2, hb2⟩
  clear hcx hc
  go_wp2_with fail
  refine (zz_app (some ⟨w1.heap.size, 0, none⟩) len xs s _ L N HL HN (by intro h; cases h) hx (by omega) (by omega) (by intro b hb j hj; cases hb; rw [Addr.add_lit, Nat.zero_add]; exact hc2 j hj)).mono ?_
  rintro e w3 ⟨g, c, rfl, hg, hg2, hcL, hb3⟩
  have hz1 := hb2.size
  have hz2 := hb3.size
  have kK : Hid (∀ j, j < len → w3.cell? ⟨w'.heap.size, j, none⟩ = some (.int .u8 (nth xs j))) := fun j hj =>
    ((hb3.cell (by show w'.heap.size < _; omega)).trans (hb2.cell (by show w'.heap.size < _; omega))).trans (hc1 j hj)
  have kL : Hid (∀ j, j < N → w3.cell? ⟨g, j, none⟩ = some (.int .u8 (nth L j))) := hcL
  have hbel : Hid (Below w'.heap.size w' w3) := (hb1.trans (hb2.mono (by omega))).trans (hb3.mono (by omega))
  clear hcL hc1 hc2 hb1 hb2 hb3
  go_wp2
  go_loopw [7] (fun i wr => ∃ k nq : Nat, k ≤ len ∧ i = .int .i64 k ∧ wr = w3.drewN nq) (fun i _ => len - (intOf i).toNat)
  case atStart => exact ⟨0, 0, by omega, rfl, rfl⟩
  case round =>
    obtain ⟨k, nq, hk, rfl, rfl⟩ := hrel
    by_cases hlt : k < len
    · have f1 := kL.out k (by omega)
      have f2 := kK.out k (by omega)
      have f3 := q3.out k (by omega)
      go_wp2
      go_quiet (fail)
      go_wp2
      go_roundw
      case rel => exact ⟨k + 1, _, by omega, by go_num, rfl⟩
      case measure => simp [intOf]; omega
    · go_wp2_with fail
      refine (parse_any g c len N L s (w3.drewN nq) hg2 kL.out (by omega) (by omega) hN hN2 q0 q1 q2).mono ?_
      rintro e w4 ⟨rfl, hb4⟩
      have hbel4 : Hid (Below w'.heap.size w' w4) := (bel_drewN' hbel.out nq).trans (hb4.mono (by show w'.heap.size ≤ w3.heap.size; omega))
      clear hb4
      go_wp2
      go_ret
      exact ⟨rfl, hbel4.out⟩
set_option maxRecDepth 100000 in
set_option maxHeartbeats 2000000 in
/-- The slice is nil. -/
theorem canon_nil (s : ByteArray) (w : World)
    (hsum : s.size ≤ 1048576)
    (L : List Int) (N : Nat) (HL : Hid (L = [] ++ full (byt s))) (HN : Hid (L.length = N))
    (hN : N ≤ pos 0 s s.size + 1) (hN2 : pos 0 s s.size + 1 ≤ N)
    (q0 : Hid (nth L 0 = 34)) (q1 : Hid (∀ k i (h : k < s.size), i < (esc1 (s[k].toNat : Int)).length → nth L (pos 0 s k + i) = nth (esc1 (s[k].toNat : Int)) i)) (q2 : Hid (nth L (pos 0 s s.size) = 34)) :
    Calls Try.prog 3 #[.slice none 0 0, .string s] w fun e w' => e = .returned (.bool true) ∧ Below w.heap.size w w' := by
  have d2 : decide (1048576 < (s.size : Int)) = false := by simp; omega
  go_enter Try.func3, Try.ntmps3
  go_wp2_with fail
  refine (zz5_true none 0 0 s _ (by omega)).mono ?_
  rintro e w' ⟨rfl, rfl⟩
  go_wp2_with fail
  refine (clone_nil _).mono ?_
  rintro e w1 ⟨rfl, rfl⟩
  go_wp2_with fail
  refine (clone_nil _).mono ?_
  rintro e w2 ⟨rfl, rfl⟩
  go_wp2_with fail
  refine (zz_app none 0 [] s _ L N HL HN (fun _ => rfl) rfl (by omega) (by omega) (by intro b hb; cases hb)).mono ?_
  rintro e w3 ⟨g, c, rfl, hg, hg2, hcL, hb3⟩
  have hz2 := hb3.size
  have kL : Hid (∀ j, j < N → w3.cell? ⟨g, j, none⟩ = some (.int .u8 (nth L j))) := hcL
  have hbel : Hid (Below w2.heap.size w2 w3) := hb3
  clear hcL hb3
  go_wp2
  go_loopw [7] (fun i wr => ∃ k nq : Nat, k = 0 ∧ i = .int .i64 k ∧ wr = w3.drewN nq) (fun i _ => 0 - (intOf i).toNat)
  case atStart => exact ⟨0, 0, by omega, rfl, rfl⟩
  case round =>
    obtain ⟨k, nq, hk, rfl, rfl⟩ := hrel
    subst hk
    · go_wp2_with fail
      refine (parse_any g c 0 N L s (w3.drewN nq) hg2 kL.out (by omega) (by omega) hN hN2 q0 q1 q2).mono ?_
      rintro e w4 ⟨rfl, hb4⟩
      have hbel4 : Hid (Below w2.heap.size w2 w4) := (bel_drewN' hbel.out nq).trans (hb4.mono (by show w2.heap.size ≤ w3.heap.size; omega))
      clear hb4
      go_wp2
      go_ret
      exact ⟨rfl, hbel4.out⟩
end Go.Proofs.Qxb6600981a
