/-
  The plain side, more: leading zeros, digit strings compared as text. No Go in sight. Ours.
-/
import Derived.Test.Qxb6601004aPlain
namespace Go.Proofs.Qxb6601004a

theorem dv_cons_zero (t : List Int) : dv (48 :: t) = dv t := by
  unfold dv
  rfl
theorem dv_skip (L : List Int) (k0 m : Nat) (hm : k0 + m ≤ L.length) (h : ∀ i, k0 ≤ i → i < k0 + m → nth L i = 48) : dv (L.drop k0) = dv (L.drop (k0 + m)) := by
  induction m with
  | zero => rfl
  | succ m ih =>
    rw [ih (by omega) (fun i h1 h2 => h i h1 (by omega))]
    have hk := h (k0 + m) (by omega) (by omega)
    rw [nth_get L (k0 + m) (by omega)] at hk
    rw [List.drop_eq_getElem_cons (show k0 + m < L.length by omega), hk, dv_cons_zero]
    rfl

/-- A first digit that is no zero, and twenty digits or more: beyond every int64. -/
theorem dv_long (E : List Int) (hd : digs E E.length) (hl : 20 ≤ E.length) (h0 : nth E 0 ≠ 48) : 9223372036854775808 < dv E := by
  have a0 := dvk_zero E
  have hm := dvk_mono E 20 (E.length - 20) (by omega) (by rw [show 20 + (E.length - 20) = E.length by omega]; exact hd)
  rw [show 20 + (E.length - 20) = E.length by omega, dvk_full] at hm
  have b0 := hd 0 (by omega)
  have a1 : dvk E 1 = dvk E 0 * 10 + (nth E 0 - 48) := dvk_succ E 0 (by omega)
  have c1 : 1 ≤ dvk E 1 := by clear hm; omega
  clear a1 b0
  have a2 : dvk E 2 = dvk E 1 * 10 + (nth E 1 - 48) := dvk_succ E 1 (by omega)
  have b1 := hd 1 (by omega)
  have c2 : 10 ≤ dvk E 2 := by clear hm; omega
  clear a2 b1 c1
  have a3 : dvk E 3 = dvk E 2 * 10 + (nth E 2 - 48) := dvk_succ E 2 (by omega)
  have b2 := hd 2 (by omega)
  have c3 : 100 ≤ dvk E 3 := by clear hm; omega
  clear a3 b2 c2
  have a4 : dvk E 4 = dvk E 3 * 10 + (nth E 3 - 48) := dvk_succ E 3 (by omega)
  have b3 := hd 3 (by omega)
  have c4 : 1000 ≤ dvk E 4 := by clear hm; omega
  clear a4 b3 c3
  have a5 : dvk E 5 = dvk E 4 * 10 + (nth E 4 - 48) := dvk_succ E 4 (by omega)
  have b4 := hd 4 (by omega)
  have c5 : 10000 ≤ dvk E 5 := by clear hm; omega
  clear a5 b4 c4
  have a6 : dvk E 6 = dvk E 5 * 10 + (nth E 5 - 48) := dvk_succ E 5 (by omega)
  have b5 := hd 5 (by omega)
  have c6 : 100000 ≤ dvk E 6 := by clear hm; omega
  clear a6 b5 c5
  have a7 : dvk E 7 = dvk E 6 * 10 + (nth E 6 - 48) := dvk_succ E 6 (by omega)
  have b6 := hd 6 (by omega)
  have c7 : 1000000 ≤ dvk E 7 := by clear hm; omega
  clear a7 b6 c6
  have a8 : dvk E 8 = dvk E 7 * 10 + (nth E 7 - 48) := dvk_succ E 7 (by omega)
  have b7 := hd 7 (by omega)
  have c8 : 10000000 ≤ dvk E 8 := by clear hm; omega
  clear a8 b7 c7
  have a9 : dvk E 9 = dvk E 8 * 10 + (nth E 8 - 48) := dvk_succ E 8 (by omega)
  have b8 := hd 8 (by omega)
  have c9 : 100000000 ≤ dvk E 9 := by clear hm; omega
  clear a9 b8 c8
  have a10 : dvk E 10 = dvk E 9 * 10 + (nth E 9 - 48) := dvk_succ E 9 (by omega)
  have b9 := hd 9 (by omega)
  have c10 : 1000000000 ≤ dvk E 10 := by clear hm; omega
  clear a10 b9 c9
  have a11 : dvk E 11 = dvk E 10 * 10 + (nth E 10 - 48) := dvk_succ E 10 (by omega)
  have b10 := hd 10 (by omega)
  have c11 : 10000000000 ≤ dvk E 11 := by clear hm; omega
  clear a11 b10 c10
  have a12 : dvk E 12 = dvk E 11 * 10 + (nth E 11 - 48) := dvk_succ E 11 (by omega)
  have b11 := hd 11 (by omega)
  have c12 : 100000000000 ≤ dvk E 12 := by clear hm; omega
  clear a12 b11 c11
  have a13 : dvk E 13 = dvk E 12 * 10 + (nth E 12 - 48) := dvk_succ E 12 (by omega)
  have b12 := hd 12 (by omega)
  have c13 : 1000000000000 ≤ dvk E 13 := by clear hm; omega
  clear a13 b12 c12
  have a14 : dvk E 14 = dvk E 13 * 10 + (nth E 13 - 48) := dvk_succ E 13 (by omega)
  have b13 := hd 13 (by omega)
  have c14 : 10000000000000 ≤ dvk E 14 := by clear hm; omega
  clear a14 b13 c13
  have a15 : dvk E 15 = dvk E 14 * 10 + (nth E 14 - 48) := dvk_succ E 14 (by omega)
  have b14 := hd 14 (by omega)
  have c15 : 100000000000000 ≤ dvk E 15 := by clear hm; omega
  clear a15 b14 c14
  have a16 : dvk E 16 = dvk E 15 * 10 + (nth E 15 - 48) := dvk_succ E 15 (by omega)
  have b15 := hd 15 (by omega)
  have c16 : 1000000000000000 ≤ dvk E 16 := by clear hm; omega
  clear a16 b15 c15
  have a17 : dvk E 17 = dvk E 16 * 10 + (nth E 16 - 48) := dvk_succ E 16 (by omega)
  have b16 := hd 16 (by omega)
  have c17 : 10000000000000000 ≤ dvk E 17 := by clear hm; omega
  clear a17 b16 c16
  have a18 : dvk E 18 = dvk E 17 * 10 + (nth E 17 - 48) := dvk_succ E 17 (by omega)
  have b17 := hd 17 (by omega)
  have c18 : 100000000000000000 ≤ dvk E 18 := by clear hm; omega
  clear a18 b17 c17
  have a19 : dvk E 19 = dvk E 18 * 10 + (nth E 18 - 48) := dvk_succ E 18 (by omega)
  have b18 := hd 18 (by omega)
  have c19 : 1000000000000000000 ≤ dvk E 19 := by clear hm; omega
  clear a19 b18 c18
  have a20 : dvk E 20 = dvk E 19 * 10 + (nth E 19 - 48) := dvk_succ E 19 (by omega)
  have b19 := hd 19 (by omega)
  have c20 : 10000000000000000000 ≤ dvk E 20 := by clear hm; omega
  clear a20 b19 c19
  omega

/-- At most eighteen digits: an int64. -/
def p10 : Nat → Int
  | 0 => 1
  | n + 1 => 10 * p10 n
theorem p10_succ (n : Nat) : p10 (n + 1) = 10 * p10 n := rfl
theorem p10_pos (n : Nat) : 1 ≤ p10 n := by
  induction n with
  | zero => exact Int.le_refl 1
  | succ n ih => rw [p10_succ]; omega
theorem p10_mono (n m : Nat) : p10 n ≤ p10 (n + m) := by
  induction m with
  | zero => exact Int.le_refl _
  | succ m ih =>
    have := p10_pos (n + m)
    rw [show n + (m + 1) = n + m + 1 by omega]
    rw [p10_succ]
    omega
theorem dvk_lt (E : List Int) (k : Nat) (hk : k ≤ E.length) (hd : digs E k) : dvk E k < p10 k := by
  induction k with
  | zero => rw [dvk_zero]; decide
  | succ k ih =>
    have h1 := ih (by omega) (fun i hi => hd i (by omega))
    have h2 := hd k (by omega)
    rw [dvk_succ E k (by omega), p10_succ]
    omega
theorem dv_short (E : List Int) (hd : digs E E.length) (hl : E.length ≤ 18) : dv E ≤ 9223372036854775807 := by
  have h1 := dvk_lt E E.length (Nat.le_refl _) hd
  have h2 := p10_mono E.length (18 - E.length)
  rw [show E.length + (18 - E.length) = 18 by omega] at h2
  have h3 : p10 18 = 1000000000000000000 := by decide
  rw [dvk_full] at h1
  omega

/-- The same first j digits: the same value. -/
theorem dvk_same (E F : List Int) (j : Nat) (h1 : j ≤ E.length) (h2 : j ≤ F.length) (h : ∀ i, i < j → nth E i = nth F i) : dvk E j = dvk F j := by
  induction j with
  | zero => rw [dvk_zero, dvk_zero]
  | succ j ih =>
    rw [dvk_succ E j (by omega), dvk_succ F j (by omega), ih (by omega) (by omega) (fun i hi => h i (by omega)), h j (by omega)]
/-- The first digit that parts them decides. -/
theorem dvk_less (E F : List Int) (j m : Nat) (h1 : j + 1 + m ≤ E.length) (h2 : j + 1 + m ≤ F.length) (dE : digs E (j + 1 + m)) (dF : digs F (j + 1 + m)) (h : ∀ i, i < j → nth E i = nth F i) (hj : nth E j < nth F j) :
    dvk E (j + 1 + m) < dvk F (j + 1 + m) := by
  induction m with
  | zero =>
    rw [Nat.add_zero, dvk_succ E j (by omega), dvk_succ F j (by omega), dvk_same E F j (by omega) (by omega) h]
    omega
  | succ m ih =>
    have h3 := ih (by omega) (by omega) (fun i hi => dE i (by omega)) (fun i hi => dF i (by omega))
    have h4 := dE (j + 1 + m) (by omega)
    have h5 := dF (j + 1 + m) (by omega)
    rw [show j + 1 + (m + 1) = j + 1 + m + 1 by omega, dvk_succ E _ (by omega), dvk_succ F _ (by omega)]
    omega

/-- The bounds' digits. -/
def bd (neg : Bool) : List Int := if neg = true then [57, 50, 50, 51, 51, 55, 50, 48, 51, 54, 56, 53, 52, 55, 55, 53, 56, 48, 56] else [57, 50, 50, 51, 51, 55, 50, 48, 51, 54, 56, 53, 52, 55, 55, 53, 56, 48, 55]
def bv (neg : Bool) : Int := if neg = true then 9223372036854775808 else 9223372036854775807
theorem bd_length (neg : Bool) : (bd neg).length = 19 := by cases neg <;> rfl
theorem bd_digs (neg : Bool) : digs (bd neg) 19 := by
  have h : digB (bd neg) = true := by cases neg <;> decide
  have := digB_get _ h
  rwa [bd_length] at this
theorem bd_value (neg : Bool) : dvk (bd neg) 19 = bv neg := by cases neg <;> decide

theorem cmp_less (neg : Bool) (E : List Int) (hl : E.length = 19) (hd : digs E E.length) (j : Nat) (hj : j < 19) (h : ∀ i, i < j → nth E i = nth (bd neg) i) (hlt : nth E j < nth (bd neg) j) : dv E < bv neg := by
  have := dvk_less E (bd neg) j (18 - j) (by omega) (by rw [bd_length]; omega) (fun i hi => hd i (by omega)) (fun i hi => bd_digs neg i (by omega)) h hlt
  rw [show j + 1 + (18 - j) = 19 by omega, bd_value, ← hl, dvk_full] at this
  exact this
theorem cmp_more (neg : Bool) (E : List Int) (hl : E.length = 19) (hd : digs E E.length) (j : Nat) (hj : j < 19) (h : ∀ i, i < j → nth E i = nth (bd neg) i) (hlt : nth (bd neg) j < nth E j) : bv neg < dv E := by
  have := dvk_less (bd neg) E j (18 - j) (by rw [bd_length]; omega) (by omega) (fun i hi => bd_digs neg i (by omega)) (fun i hi => hd i (by omega)) (fun i hi => (h i hi).symm) hlt
  rw [show j + 1 + (18 - j) = 19 by omega, bd_value, ← hl, dvk_full] at this
  exact this
theorem cmp_same (neg : Bool) (E : List Int) (hl : E.length = 19) (h : ∀ i, i < 19 → nth E i = nth (bd neg) i) : dv E = bv neg := by
  rw [← dvk_full, hl, dvk_same E (bd neg) 19 (by omega) (by rw [bd_length]; omega) h, bd_value]

/-- Too great behind its sign. -/
theorem res_over (neg : Bool) (D : List Int) (h : bv neg < dv D) : res neg D = (0, false) := by
  cases neg
  · exact res_pos_big D h
  · exact res_big true D D.length (Nat.le_refl _) (by rw [dvk_full]; exact h)
/-- It fits. -/
theorem res_fits (neg : Bool) (D : List Int) (h0 : 0 < D.length) (hd : digs D D.length) (h : dv D ≤ bv neg) : res neg D = (if neg = true then -dv D else dv D, true) := by
  cases neg
  · exact res_pos D h0 hd h
  · exact res_neg D h0 hd h
end Go.Proofs.Qxb6601004a
