/-
  The walk of 'modelParse_bencode_b1' (function 8). Ours.
-/
import Derived.Test.Qxb6601004aPd
import Derived.Test.Qxb6601004aDigits
import Derived.Deep.QuietTactic
import Derived.BigQuiet
namespace Go.Proofs.Qxb6601004a
open Go.RowKit
set_option linter.unusedVariables false

/-- Every beginning of digits whose value fits. -/
theorem ret_eq {r : Int × Bool} {x a : Int} {y b : Bool} (R : r = (x, y)) (hp : r = (a, b)) : Ending.returned (.tuple #[.int .i64 x, .bool y]) = .returned (.tuple #[.int .i64 a, .bool b]) := by
  rw [R] at hp
  obtain ⟨rfl, rfl⟩ := Prod.mk.inj hp
  rfl
theorem vals (E : List Int) (neg : Bool) (m : Nat) (hm : E.length = m) (hd : digs E E.length) (h : dv E ≤ bv neg) : ∀ j, j ≤ m → 0 ≤ dvk E j ∧ dvk E j ≤ bv neg := by
  intro j hj
  have h1 := dvk_nonneg E j (by omega) (fun i hi => hd i (by omega))
  have h2 := dvk_mono E j (E.length - j) (by omega) (by rw [show j + (E.length - j) = E.length by omega]; exact hd)
  rw [show j + (E.length - j) = E.length by omega, dvk_full] at h2
  omega
theorem bytes_pos : ∀ j : Fin 19, (((⟨#[57, 50, 50, 51, 51, 55, 50, 48, 51, 54, 56, 53, 52, 55, 55, 53, 56, 48, 55]⟩ : ByteArray)[j.val]'(j.isLt)).toNat : Int) = nth (bd false) j.val := by decide
theorem run_bd_pos (w : World) (j : Nat) (h : j < 19) : (Instr.index 9 (.string ⟨#[57, 50, 50, 51, 51, 55, 50, 48, 51, 54, 56, 53, 52, 55, 55, 53, 56, 48, 55]⟩) (.int .i64 (j : Int))).run Try.prog w = .ok (.int .u8 (nth (bd false) j)) w := by
  rw [run_index_string w 9 _ .i64 (j : Int) Try.underlying9, dif_pos ⟨by omega, by show (j : Int) < 19; omega⟩]
  have := bytes_pos ⟨j, h⟩
  simp only [Int.toNat_natCast]
  rw [← this]
theorem bytes_neg : ∀ j : Fin 19, (((⟨#[57, 50, 50, 51, 51, 55, 50, 48, 51, 54, 56, 53, 52, 55, 55, 53, 56, 48, 56]⟩ : ByteArray)[j.val]'(j.isLt)).toNat : Int) = nth (bd true) j.val := by decide
theorem run_bd_neg (w : World) (j : Nat) (h : j < 19) : (Instr.index 9 (.string ⟨#[57, 50, 50, 51, 51, 55, 50, 48, 51, 54, 56, 53, 52, 55, 55, 53, 56, 48, 56]⟩) (.int .i64 (j : Int))).run Try.prog w = .ok (.int .u8 (nth (bd true) j)) w := by
  rw [run_index_string w 9 _ .i64 (j : Int) Try.underlying9, dif_pos ⟨by omega, by show (j : Int) < 19; omega⟩]
  have := bytes_neg ⟨j, h⟩
  simp only [Int.toNat_natCast]
  rw [← this]

set_option maxRecDepth 100000 in
set_option maxHeartbeats 4000000 in
/-- No sign ahead of the digits. -/
theorem mp_pos (g len : Nat) (L : List Int) (w : World) (hL : L.length = len) (h1 : 1 ≤ len) (hlen : len ≤ 1048576) (hr : Hid (∀ j, 0 ≤ nth L j ∧ nth L j ≤ 255))
    (hc : Hid (∀ j, j < len → w.cell? ⟨g, j, none⟩ = some (.int .u8 (nth L j)))) (hs : (nth L 0 == 45) = false) (a : Int) (b : Bool) (hp : Hid (res false (L.drop 0) = (a, b))) :
    Calls Try.prog 8 #[.slice (some ⟨g, 0, none⟩) len len] w fun e w' => e = .returned (.tuple #[.int .i64 a, .bool b]) ∧ ∃ nq, w' = w.drewN nq := by
  have c0 := hc.out 0 (by omega)
  have d0 : decide (0 < (len : Int)) = true := decide_eq_true (by omega)
  have d1 : (0 == (len : Int)) = false := beq_eq_false_iff_ne.2 (by omega)
  go_enter Try.func8, Try.ntmps8
  go_wp2
  clear c0 hs
  go_loop [6] (fun i => ∃ k : Nat, 0 ≤ k ∧ k ≤ len ∧ i = .int .i64 k ∧ Hid (∀ i, 0 ≤ i → i < k → 48 ≤ nth L i ∧ nth L i ≤ 57)) (fun i => len - (intOf i).toNat)
  case atStart => exact ⟨0, by omega, by omega, rfl, fun i h0 hi => by omega⟩
  case round =>
    obtain ⟨k, hk0, hk, rfl, hdg⟩ := hrel
    by_cases hlt : k < len
    · have cc := hc.out k hlt
      obtain ⟨cr0, cr1⟩ := hr.out k
      by_cases b1 : nth L k < 48
      · have R : Hid (res false (L.drop 0) = (0, false)) := res_bad false (L.drop 0) (k - 0) (by rw [List.length_drop]; omega) (by rw [nth_drop, show 0 + (k - 0) = k by omega]; omega)
        have e1 : decide (nth L k < 48) = true := decide_eq_true b1
        go_wp2
        go_ret2
        exact ⟨ret_eq R.out hp.out, 0, rfl⟩
      have e1 : decide (nth L k < 48) = false := decide_eq_false b1
      by_cases b2 : 57 < nth L k
      · have R : Hid (res false (L.drop 0) = (0, false)) := res_bad false (L.drop 0) (k - 0) (by rw [List.length_drop]; omega) (by rw [nth_drop, show 0 + (k - 0) = k by omega]; omega)
        have e2 : decide (57 < nth L k) = true := decide_eq_true b2
        go_wp2
        go_ret2
        exact ⟨ret_eq R.out hp.out, 0, rfl⟩
      have e2 : decide (57 < nth L k) = false := decide_eq_false b2
      go_wp2
      go_round
      case rel => exact ⟨k + 1, by omega, by omega, by go_num, fun i h0 hi => by by_cases e : i < k; exact hdg.out i h0 e; rw [show i = k by omega]; omega⟩
      case measure => simp [intOf]; omega
    · have HD : Hid (∀ i, 0 ≤ i → i < len → 48 ≤ nth L i ∧ nth L i ≤ 57) := fun i h0 hi => hdg.out i h0 (by omega)
      have dD : Hid (digs (L.drop 0) (L.drop 0).length) := fun i hi => by rw [nth_drop]; rw [List.length_drop] at hi; exact HD.out (0 + i) (by omega) (by omega)
      clear hdg
      go_wp2
      go_loop [5] (fun i => ∃ k : Nat, 0 ≤ k ∧ k ≤ len ∧ i = .int .i64 k ∧ Hid (∀ i, 0 ≤ i → i < k → nth L i = 48)) (fun i => len - (intOf i).toNat)
      case atStart => exact ⟨0, by omega, by omega, rfl, fun i h0 hi => by omega⟩
      case round =>
        obtain ⟨k, hk0, hk, rfl, hze⟩ := hrel
        have zE0 : Hid (dv (L.drop 0) = dv (L.drop k)) := by
          have := dv_skip L 0 (k - 0) (by omega) (fun i h0 hi => hze.out i h0 (by omega))
          rw [show 0 + (k - 0) = k by omega] at this
          exact this
        by_cases hlt : k < len
        · have cc := hc.out k hlt
          obtain ⟨cr0, cr1⟩ := HD.out k hk0 hlt
          have e0 : decide ((k : Int) < (len : Int)) = true := decide_eq_true (by omega)
          by_cases b1 : nth L k = 48
          · have e1 : (nth L k == 48) = true := by simpa using b1
            have B1 : Hid (nth L k = 48) := b1
            clear b1
            go_wp2
            go_round
            case rel => exact ⟨k + 1, by omega, by omega, by go_num, fun i h0 hi => by by_cases e : i < k; exact hze.out i h0 e; rw [show i = k by omega]; exact B1.out⟩
            case measure => simp [intOf]; omega
          · have e1 : (nth L k == 48) = false := by simpa using b1
            obtain ⟨E, hE⟩ : ∃ E, E = L.drop k := ⟨_, rfl⟩
            have lE : Hid (E.length = len - k) := by show _ = _; rw [hE, List.length_drop, hL]
            have kE : Hid (∀ j, j < len - k → w.cell? ⟨g, k + j, none⟩ = some (.int .u8 (nth E j))) := fun j hj => by rw [hE, nth_drop]; exact hc.out (k + j) (by omega)
            have dE : Hid (digs E E.length) := fun i hi => by rw [hE, nth_drop]; rw [lE.out] at hi; exact HD.out (k + i) (by omega) (by omega)
            have zE : Hid (dv (L.drop 0) = dv E) := by rw [hE]; exact zE0
            have nE : Hid (nth E 0 ≠ 48) := by rw [hE, nth_drop, Nat.add_zero]; exact b1
            clear hE b1
            by_cases m1 : 20 ≤ len - k
            · have R : Hid (res false (L.drop 0) = (0, false)) := res_over false (L.drop 0) (by rw [zE.out]; have := dv_long E dE.out (by rw [lE.out]; exact m1) nE.out; have hb : bv false = 9223372036854775807 := rfl; omega)
              go_wp2
              go_ret2
              exact ⟨ret_eq R.out hp.out, 0, rfl⟩
            by_cases m2 : len - k = 19
            · have m3 : 19 ≤ len - k := by omega
              have m4 : len - k ≤ 19 := by omega
              have M2 : Hid (len - k = 19) := m2
              clear m2
              go_wp2
              go_loopw [9] (fun i wr => ∃ j nq : Nat, j ≤ 19 ∧ i = .int .i64 j ∧ wr = w.drewN nq ∧ Hid (∀ i, i < j → nth E i = nth (bd false) i)) (fun i _ => 19 - (intOf i).toNat)
              case atStart => exact ⟨0, 0, Nat.zero_le _, rfl, rfl, fun i hi => absurd hi (Nat.not_lt_zero i)⟩
              case round =>
                obtain ⟨j, nq, hj, rfl, rfl, hpre⟩ := hrel
                by_cases hjl : j < 19
                · have f1 := kE.out j (by omega)
                  have f2 := fun wx => run_bd_pos wx j hjl
                  by_cases x1 : nth E j = nth (bd false) j
                  · have X1 : Hid (nth E j = nth (bd false) j) := x1
                    have x2 : (nth E j != nth (bd false) j) = false := by rw [x1]; exact bne_self_eq_false _
                    clear x1
                    go_wp2
                    go_quiet (fail)
                    go_wp2
                    go_roundw
                    case rel => exact ⟨j + 1, _, by omega, by go_num, rfl, fun i hi => by by_cases e : i < j; exact hpre.out i e; rw [show i = j by omega]; exact X1.out⟩
                    case measure => simp [intOf]; omega
                  have x2 : (nth E j != nth (bd false) j) = true := bne_iff_ne.2 x1
                  by_cases x3 : nth (bd false) j < nth E j
                  · have R : Hid (res false (L.drop 0) = (0, false)) := res_over false (L.drop 0) (by rw [zE.out]; exact cmp_more false E (by rw [lE.out, M2.out]) dE.out j hjl hpre.out x3)
                    go_wp2
                    go_quiet (fail)
                    go_wp2
                    go_quiet (fail)
                    go_wp2
                    go_ret2
                    exact ⟨ret_eq R.out hp.out, by first | exact ⟨_, rfl⟩ | exact ⟨0, rfl⟩ | exact ⟨_, by rw [World.drewN_drewN, World.drewN_drewN]⟩⟩
                  · have hv : Hid (dv E ≤ bv false) := Int.le_of_lt (cmp_less false E (by rw [lE.out, M2.out]) dE.out j hjl hpre.out (by omega))
                    go_wp2
                    go_quiet (fail)
                    go_wp2
                    go_quiet (fail)
                    have vE : Hid (∀ j, j ≤ len - k → 0 ≤ dvk E j ∧ dvk E j ≤ 9223372036854775807) := vals E false (len - k) lE.out dE.out hv.out
                    have zd : Hid (dvk E 0 = 0) := dvk_zero E
                    have R : Hid (res false (L.drop 0) = (dvk E (len - k), true)) := by
                      have := res_fits false (L.drop 0) (by rw [List.length_drop]; omega) dD.out (by rw [zE.out]; exact hv.out)
                      rw [zE.out, ← dvk_full, lE.out] at this
                      exact this
                    go_wp2
                    go_loop [10, 11] (fun t i => ∃ j : Nat, j ≤ len - k ∧ i = .int .i64 j ∧ t = .int .i64 (-(dvk E j))) (fun _ i => (len - k) - (intOf i).toNat)
                    case atStart => exact ⟨0, Nat.zero_le _, rfl, by rw [zd.out]; rfl⟩
                    case round =>
                      obtain ⟨j, hj, rfl, rfl⟩ := hrel
                      obtain ⟨v0, v1⟩ := vE.out j hj
                      by_cases hjl : j < len - k
                      · have f1 := kE.out j hjl
                        obtain ⟨cr0, cr1⟩ := dE.out j (by rw [lE.out]; exact hjl)
                        have hsu : Hid (dvk E (j + 1) = dvk E j * 10 + (nth E j - 48)) := dvk_succ E j (by rw [lE.out]; exact hjl)
                        have v2 := (vE.out (j + 1) (by omega)).2
                        rw [hsu.out] at v2
                        go_wp2
                        go_round
                        case rel => exact ⟨j + 1, by omega, by go_num, by rw [hsu.out]; go_num⟩
                        case measure => simp [intOf]; omega
                      · have EJ : Hid (j = len - k) := by show j = len - k; omega
                        go_wp2
                        go_ret2
                        exact ⟨ret_eq (by rw [R.out, ← EJ.out]) hp.out, by first | exact ⟨_, rfl⟩ | exact ⟨0, rfl⟩ | exact ⟨_, by rw [World.drewN_drewN, World.drewN_drewN]⟩⟩
                · have hv : Hid (dv E ≤ bv false) := Int.le_of_eq (cmp_same false E (by rw [lE.out, M2.out]) (fun i hi => hpre.out i (by omega)))
                  have vE : Hid (∀ j, j ≤ len - k → 0 ≤ dvk E j ∧ dvk E j ≤ 9223372036854775807) := vals E false (len - k) lE.out dE.out hv.out
                  have zd : Hid (dvk E 0 = 0) := dvk_zero E
                  have R : Hid (res false (L.drop 0) = (dvk E (len - k), true)) := by
                    have := res_fits false (L.drop 0) (by rw [List.length_drop]; omega) dD.out (by rw [zE.out]; exact hv.out)
                    rw [zE.out, ← dvk_full, lE.out] at this
                    exact this
                  go_wp2
                  go_loop [10, 11] (fun t i => ∃ j : Nat, j ≤ len - k ∧ i = .int .i64 j ∧ t = .int .i64 (-(dvk E j))) (fun _ i => (len - k) - (intOf i).toNat)
                  case atStart => exact ⟨0, Nat.zero_le _, rfl, by rw [zd.out]; rfl⟩
                  case round =>
                    obtain ⟨j, hj, rfl, rfl⟩ := hrel
                    obtain ⟨v0, v1⟩ := vE.out j hj
                    by_cases hjl : j < len - k
                    · have f1 := kE.out j hjl
                      obtain ⟨cr0, cr1⟩ := dE.out j (by rw [lE.out]; exact hjl)
                      have hsu : Hid (dvk E (j + 1) = dvk E j * 10 + (nth E j - 48)) := dvk_succ E j (by rw [lE.out]; exact hjl)
                      have v2 := (vE.out (j + 1) (by omega)).2
                      rw [hsu.out] at v2
                      go_wp2
                      go_round
                      case rel => exact ⟨j + 1, by omega, by go_num, by rw [hsu.out]; go_num⟩
                      case measure => simp [intOf]; omega
                    · have EJ : Hid (j = len - k) := by show j = len - k; omega
                      go_wp2
                      go_ret2
                      exact ⟨ret_eq (by rw [R.out, ← EJ.out]) hp.out, by first | exact ⟨_, rfl⟩ | exact ⟨0, rfl⟩ | exact ⟨_, by rw [World.drewN_drewN, World.drewN_drewN]⟩⟩
            · have hv : Hid (dv E ≤ bv false) := by
                have := dv_short E dE.out (by rw [lE.out]; omega)
                have hb : bv false = 9223372036854775807 := rfl
                show _ ≤ _
                omega
              have vE : Hid (∀ j, j ≤ len - k → 0 ≤ dvk E j ∧ dvk E j ≤ 9223372036854775807) := vals E false (len - k) lE.out dE.out hv.out
              have zd : Hid (dvk E 0 = 0) := dvk_zero E
              have R : Hid (res false (L.drop 0) = (dvk E (len - k), true)) := by
                have := res_fits false (L.drop 0) (by rw [List.length_drop]; omega) dD.out (by rw [zE.out]; exact hv.out)
                rw [zE.out, ← dvk_full, lE.out] at this
                exact this
              go_wp2
              go_loop [10, 11] (fun t i => ∃ j : Nat, j ≤ len - k ∧ i = .int .i64 j ∧ t = .int .i64 (-(dvk E j))) (fun _ i => (len - k) - (intOf i).toNat)
              case atStart => exact ⟨0, Nat.zero_le _, rfl, by rw [zd.out]; rfl⟩
              case round =>
                obtain ⟨j, hj, rfl, rfl⟩ := hrel
                obtain ⟨v0, v1⟩ := vE.out j hj
                by_cases hjl : j < len - k
                · have f1 := kE.out j hjl
                  obtain ⟨cr0, cr1⟩ := dE.out j (by rw [lE.out]; exact hjl)
                  have hsu : Hid (dvk E (j + 1) = dvk E j * 10 + (nth E j - 48)) := dvk_succ E j (by rw [lE.out]; exact hjl)
                  have v2 := (vE.out (j + 1) (by omega)).2
                  rw [hsu.out] at v2
                  go_wp2
                  go_round
                  case rel => exact ⟨j + 1, by omega, by go_num, by rw [hsu.out]; go_num⟩
                  case measure => simp [intOf]; omega
                · have EJ : Hid (j = len - k) := by show j = len - k; omega
                  go_wp2
                  go_ret2
                  exact ⟨ret_eq (by rw [R.out, ← EJ.out]) hp.out, by first | exact ⟨_, rfl⟩ | exact ⟨0, rfl⟩ | exact ⟨_, by rw [World.drewN_drewN, World.drewN_drewN]⟩⟩
        · have e0 : decide ((k : Int) < (len : Int)) = false := decide_eq_false (by omega)
          have R : Hid (res false (L.drop 0) = (0, true)) := by
            have hz : dv (L.drop 0) = 0 := by rw [zE0.out, List.drop_eq_nil_of_le (by omega)]; rfl
            have := res_fits false (L.drop 0) (by rw [List.length_drop]; omega) dD.out (by rw [hz]; decide)
            rw [hz] at this
            exact this
          go_wp2
          go_loop [10, 11] (fun t i => t = .int .i64 0 ∧ i = .int .i64 0) (fun _ _ => 0)
          case atStart => exact ⟨rfl, rfl⟩
          case round =>
            obtain ⟨rfl, rfl⟩ := hrel
            go_wp2
            go_ret2
            exact ⟨ret_eq R.out hp.out, 0, rfl⟩

set_option maxRecDepth 100000 in
set_option maxHeartbeats 4000000 in
/-- A '-' ahead of the digits. -/
theorem mp_neg (g len : Nat) (L : List Int) (w : World) (hL : L.length = len) (h1 : 2 ≤ len) (hlen : len ≤ 1048576) (hr : Hid (∀ j, 0 ≤ nth L j ∧ nth L j ≤ 255))
    (hc : Hid (∀ j, j < len → w.cell? ⟨g, j, none⟩ = some (.int .u8 (nth L j)))) (hs : nth L 0 = 45) (a : Int) (b : Bool) (hp : Hid (res true (L.drop 1) = (a, b))) :
    Calls Try.prog 8 #[.slice (some ⟨g, 0, none⟩) len len] w fun e w' => e = .returned (.tuple #[.int .i64 a, .bool b]) ∧ ∃ nq, w' = w.drewN nq := by
  have c0 := hc.out 0 (by omega)
  rw [hs] at c0
  clear hs
  have d0 : decide (0 < (len : Int)) = true := decide_eq_true (by omega)
  have d1 : (1 == (len : Int)) = false := beq_eq_false_iff_ne.2 (by omega)
  go_enter Try.func8, Try.ntmps8
  go_wp2
  clear c0
  go_loop [6] (fun i => ∃ k : Nat, 1 ≤ k ∧ k ≤ len ∧ i = .int .i64 k ∧ Hid (∀ i, 1 ≤ i → i < k → 48 ≤ nth L i ∧ nth L i ≤ 57)) (fun i => len - (intOf i).toNat)
  case atStart => exact ⟨1, by omega, by omega, rfl, fun i h0 hi => by omega⟩
  case round =>
    obtain ⟨k, hk0, hk, rfl, hdg⟩ := hrel
    by_cases hlt : k < len
    · have cc := hc.out k hlt
      obtain ⟨cr0, cr1⟩ := hr.out k
      by_cases b1 : nth L k < 48
      · have R : Hid (res true (L.drop 1) = (0, false)) := res_bad true (L.drop 1) (k - 1) (by rw [List.length_drop]; omega) (by rw [nth_drop, show 1 + (k - 1) = k by omega]; omega)
        have e1 : decide (nth L k < 48) = true := decide_eq_true b1
        go_wp2
        go_ret2
        exact ⟨ret_eq R.out hp.out, 0, rfl⟩
      have e1 : decide (nth L k < 48) = false := decide_eq_false b1
      by_cases b2 : 57 < nth L k
      · have R : Hid (res true (L.drop 1) = (0, false)) := res_bad true (L.drop 1) (k - 1) (by rw [List.length_drop]; omega) (by rw [nth_drop, show 1 + (k - 1) = k by omega]; omega)
        have e2 : decide (57 < nth L k) = true := decide_eq_true b2
        go_wp2
        go_ret2
        exact ⟨ret_eq R.out hp.out, 0, rfl⟩
      have e2 : decide (57 < nth L k) = false := decide_eq_false b2
      go_wp2
      go_round
      case rel => exact ⟨k + 1, by omega, by omega, by go_num, fun i h0 hi => by by_cases e : i < k; exact hdg.out i h0 e; rw [show i = k by omega]; omega⟩
      case measure => simp [intOf]; omega
    · have HD : Hid (∀ i, 1 ≤ i → i < len → 48 ≤ nth L i ∧ nth L i ≤ 57) := fun i h0 hi => hdg.out i h0 (by omega)
      have dD : Hid (digs (L.drop 1) (L.drop 1).length) := fun i hi => by rw [nth_drop]; rw [List.length_drop] at hi; exact HD.out (1 + i) (by omega) (by omega)
      clear hdg
      go_wp2
      go_loop [5] (fun i => ∃ k : Nat, 1 ≤ k ∧ k ≤ len ∧ i = .int .i64 k ∧ Hid (∀ i, 1 ≤ i → i < k → nth L i = 48)) (fun i => len - (intOf i).toNat)
      case atStart => exact ⟨1, by omega, by omega, rfl, fun i h0 hi => by omega⟩
      case round =>
        obtain ⟨k, hk0, hk, rfl, hze⟩ := hrel
        have zE0 : Hid (dv (L.drop 1) = dv (L.drop k)) := by
          have := dv_skip L 1 (k - 1) (by omega) (fun i h0 hi => hze.out i h0 (by omega))
          rw [show 1 + (k - 1) = k by omega] at this
          exact this
        by_cases hlt : k < len
        · have cc := hc.out k hlt
          obtain ⟨cr0, cr1⟩ := HD.out k hk0 hlt
          have e0 : decide ((k : Int) < (len : Int)) = true := decide_eq_true (by omega)
          by_cases b1 : nth L k = 48
          · have e1 : (nth L k == 48) = true := by simpa using b1
            have B1 : Hid (nth L k = 48) := b1
            clear b1
            go_wp2
            go_round
            case rel => exact ⟨k + 1, by omega, by omega, by go_num, fun i h0 hi => by by_cases e : i < k; exact hze.out i h0 e; rw [show i = k by omega]; exact B1.out⟩
            case measure => simp [intOf]; omega
          · have e1 : (nth L k == 48) = false := by simpa using b1
            obtain ⟨E, hE⟩ : ∃ E, E = L.drop k := ⟨_, rfl⟩
            have lE : Hid (E.length = len - k) := by show _ = _; rw [hE, List.length_drop, hL]
            have kE : Hid (∀ j, j < len - k → w.cell? ⟨g, k + j, none⟩ = some (.int .u8 (nth E j))) := fun j hj => by rw [hE, nth_drop]; exact hc.out (k + j) (by omega)
            have dE : Hid (digs E E.length) := fun i hi => by rw [hE, nth_drop]; rw [lE.out] at hi; exact HD.out (k + i) (by omega) (by omega)
            have zE : Hid (dv (L.drop 1) = dv E) := by rw [hE]; exact zE0
            have nE : Hid (nth E 0 ≠ 48) := by rw [hE, nth_drop, Nat.add_zero]; exact b1
            clear hE b1
            by_cases m1 : 20 ≤ len - k
            · have R : Hid (res true (L.drop 1) = (0, false)) := res_over true (L.drop 1) (by rw [zE.out]; have := dv_long E dE.out (by rw [lE.out]; exact m1) nE.out; have hb : bv true = 9223372036854775808 := rfl; omega)
              go_wp2
              go_ret2
              exact ⟨ret_eq R.out hp.out, 0, rfl⟩
            by_cases m2 : len - k = 19
            · have m3 : 19 ≤ len - k := by omega
              have m4 : len - k ≤ 19 := by omega
              have M2 : Hid (len - k = 19) := m2
              clear m2
              go_wp2
              go_loopw [9] (fun i wr => ∃ j nq : Nat, j ≤ 19 ∧ i = .int .i64 j ∧ wr = w.drewN nq ∧ Hid (∀ i, i < j → nth E i = nth (bd true) i)) (fun i _ => 19 - (intOf i).toNat)
              case atStart => exact ⟨0, 0, Nat.zero_le _, rfl, rfl, fun i hi => absurd hi (Nat.not_lt_zero i)⟩
              case round =>
                obtain ⟨j, nq, hj, rfl, rfl, hpre⟩ := hrel
                by_cases hjl : j < 19
                · have f1 := kE.out j (by omega)
                  have f2 := fun wx => run_bd_neg wx j hjl
                  by_cases x1 : nth E j = nth (bd true) j
                  · have X1 : Hid (nth E j = nth (bd true) j) := x1
                    have x2 : (nth E j != nth (bd true) j) = false := by rw [x1]; exact bne_self_eq_false _
                    clear x1
                    go_wp2
                    go_quiet (fail)
                    go_wp2
                    go_roundw
                    case rel => exact ⟨j + 1, _, by omega, by go_num, rfl, fun i hi => by by_cases e : i < j; exact hpre.out i e; rw [show i = j by omega]; exact X1.out⟩
                    case measure => simp [intOf]; omega
                  have x2 : (nth E j != nth (bd true) j) = true := bne_iff_ne.2 x1
                  by_cases x3 : nth (bd true) j < nth E j
                  · have R : Hid (res true (L.drop 1) = (0, false)) := res_over true (L.drop 1) (by rw [zE.out]; exact cmp_more true E (by rw [lE.out, M2.out]) dE.out j hjl hpre.out x3)
                    go_wp2
                    go_quiet (fail)
                    go_wp2
                    go_quiet (fail)
                    go_wp2
                    go_ret2
                    exact ⟨ret_eq R.out hp.out, by first | exact ⟨_, rfl⟩ | exact ⟨0, rfl⟩ | exact ⟨_, by rw [World.drewN_drewN, World.drewN_drewN]⟩⟩
                  · have hv : Hid (dv E ≤ bv true) := Int.le_of_lt (cmp_less true E (by rw [lE.out, M2.out]) dE.out j hjl hpre.out (by omega))
                    go_wp2
                    go_quiet (fail)
                    go_wp2
                    go_quiet (fail)
                    have vE : Hid (∀ j, j ≤ len - k → 0 ≤ dvk E j ∧ dvk E j ≤ 9223372036854775808) := vals E true (len - k) lE.out dE.out hv.out
                    have zd : Hid (dvk E 0 = 0) := dvk_zero E
                    have R : Hid (res true (L.drop 1) = (-dvk E (len - k), true)) := by
                      have := res_fits true (L.drop 1) (by rw [List.length_drop]; omega) dD.out (by rw [zE.out]; exact hv.out)
                      rw [zE.out, ← dvk_full, lE.out] at this
                      exact this
                    go_wp2
                    go_loop [10, 11] (fun t i => ∃ j : Nat, j ≤ len - k ∧ i = .int .i64 j ∧ t = .int .i64 (-(dvk E j))) (fun _ i => (len - k) - (intOf i).toNat)
                    case atStart => exact ⟨0, Nat.zero_le _, rfl, by rw [zd.out]; rfl⟩
                    case round =>
                      obtain ⟨j, hj, rfl, rfl⟩ := hrel
                      obtain ⟨v0, v1⟩ := vE.out j hj
                      by_cases hjl : j < len - k
                      · have f1 := kE.out j hjl
                        obtain ⟨cr0, cr1⟩ := dE.out j (by rw [lE.out]; exact hjl)
                        have hsu : Hid (dvk E (j + 1) = dvk E j * 10 + (nth E j - 48)) := dvk_succ E j (by rw [lE.out]; exact hjl)
                        have v2 := (vE.out (j + 1) (by omega)).2
                        rw [hsu.out] at v2
                        go_wp2
                        go_round
                        case rel => exact ⟨j + 1, by omega, by go_num, by rw [hsu.out]; go_num⟩
                        case measure => simp [intOf]; omega
                      · have EJ : Hid (j = len - k) := by show j = len - k; omega
                        go_wp2
                        go_ret2
                        exact ⟨ret_eq (by rw [R.out, ← EJ.out]) hp.out, by first | exact ⟨_, rfl⟩ | exact ⟨0, rfl⟩ | exact ⟨_, by rw [World.drewN_drewN, World.drewN_drewN]⟩⟩
                · have hv : Hid (dv E ≤ bv true) := Int.le_of_eq (cmp_same true E (by rw [lE.out, M2.out]) (fun i hi => hpre.out i (by omega)))
                  have vE : Hid (∀ j, j ≤ len - k → 0 ≤ dvk E j ∧ dvk E j ≤ 9223372036854775808) := vals E true (len - k) lE.out dE.out hv.out
                  have zd : Hid (dvk E 0 = 0) := dvk_zero E
                  have R : Hid (res true (L.drop 1) = (-dvk E (len - k), true)) := by
                    have := res_fits true (L.drop 1) (by rw [List.length_drop]; omega) dD.out (by rw [zE.out]; exact hv.out)
                    rw [zE.out, ← dvk_full, lE.out] at this
                    exact this
                  go_wp2
                  go_loop [10, 11] (fun t i => ∃ j : Nat, j ≤ len - k ∧ i = .int .i64 j ∧ t = .int .i64 (-(dvk E j))) (fun _ i => (len - k) - (intOf i).toNat)
                  case atStart => exact ⟨0, Nat.zero_le _, rfl, by rw [zd.out]; rfl⟩
                  case round =>
                    obtain ⟨j, hj, rfl, rfl⟩ := hrel
                    obtain ⟨v0, v1⟩ := vE.out j hj
                    by_cases hjl : j < len - k
                    · have f1 := kE.out j hjl
                      obtain ⟨cr0, cr1⟩ := dE.out j (by rw [lE.out]; exact hjl)
                      have hsu : Hid (dvk E (j + 1) = dvk E j * 10 + (nth E j - 48)) := dvk_succ E j (by rw [lE.out]; exact hjl)
                      have v2 := (vE.out (j + 1) (by omega)).2
                      rw [hsu.out] at v2
                      go_wp2
                      go_round
                      case rel => exact ⟨j + 1, by omega, by go_num, by rw [hsu.out]; go_num⟩
                      case measure => simp [intOf]; omega
                    · have EJ : Hid (j = len - k) := by show j = len - k; omega
                      go_wp2
                      go_ret2
                      exact ⟨ret_eq (by rw [R.out, ← EJ.out]) hp.out, by first | exact ⟨_, rfl⟩ | exact ⟨0, rfl⟩ | exact ⟨_, by rw [World.drewN_drewN, World.drewN_drewN]⟩⟩
            · have hv : Hid (dv E ≤ bv true) := by
                have := dv_short E dE.out (by rw [lE.out]; omega)
                have hb : bv true = 9223372036854775808 := rfl
                show _ ≤ _
                omega
              have vE : Hid (∀ j, j ≤ len - k → 0 ≤ dvk E j ∧ dvk E j ≤ 9223372036854775808) := vals E true (len - k) lE.out dE.out hv.out
              have zd : Hid (dvk E 0 = 0) := dvk_zero E
              have R : Hid (res true (L.drop 1) = (-dvk E (len - k), true)) := by
                have := res_fits true (L.drop 1) (by rw [List.length_drop]; omega) dD.out (by rw [zE.out]; exact hv.out)
                rw [zE.out, ← dvk_full, lE.out] at this
                exact this
              go_wp2
              go_loop [10, 11] (fun t i => ∃ j : Nat, j ≤ len - k ∧ i = .int .i64 j ∧ t = .int .i64 (-(dvk E j))) (fun _ i => (len - k) - (intOf i).toNat)
              case atStart => exact ⟨0, Nat.zero_le _, rfl, by rw [zd.out]; rfl⟩
              case round =>
                obtain ⟨j, hj, rfl, rfl⟩ := hrel
                obtain ⟨v0, v1⟩ := vE.out j hj
                by_cases hjl : j < len - k
                · have f1 := kE.out j hjl
                  obtain ⟨cr0, cr1⟩ := dE.out j (by rw [lE.out]; exact hjl)
                  have hsu : Hid (dvk E (j + 1) = dvk E j * 10 + (nth E j - 48)) := dvk_succ E j (by rw [lE.out]; exact hjl)
                  have v2 := (vE.out (j + 1) (by omega)).2
                  rw [hsu.out] at v2
                  go_wp2
                  go_round
                  case rel => exact ⟨j + 1, by omega, by go_num, by rw [hsu.out]; go_num⟩
                  case measure => simp [intOf]; omega
                · have EJ : Hid (j = len - k) := by show j = len - k; omega
                  go_wp2
                  go_ret2
                  exact ⟨ret_eq (by rw [R.out, ← EJ.out]) hp.out, by first | exact ⟨_, rfl⟩ | exact ⟨0, rfl⟩ | exact ⟨_, by rw [World.drewN_drewN, World.drewN_drewN]⟩⟩
        · have e0 : decide ((k : Int) < (len : Int)) = false := decide_eq_false (by omega)
          have R : Hid (res true (L.drop 1) = (0, true)) := by
            have hz : dv (L.drop 1) = 0 := by rw [zE0.out, List.drop_eq_nil_of_le (by omega)]; rfl
            have := res_fits true (L.drop 1) (by rw [List.length_drop]; omega) dD.out (by rw [hz]; decide)
            rw [hz] at this
            exact this
          go_wp2
          go_loop [10, 11] (fun t i => t = .int .i64 0 ∧ i = .int .i64 0) (fun _ _ => 0)
          case atStart => exact ⟨rfl, rfl⟩
          case round =>
            obtain ⟨rfl, rfl⟩ := hrel
            go_wp2
            go_ret2
            exact ⟨ret_eq R.out hp.out, 0, rfl⟩
end Go.Proofs.Qxb6601004a
