/-
  The plain side: decimal digits as numbers, and what a reader of a decimal int64 answers. No Go in sight. Ours.
-/
namespace Go.Proofs.Qxb6601004aDoor

/-- The number at place j, under a name that the walk's own rules do not open. -/
def nth (L : List Int) (j : Nat) : Int := L.getD j 0
/-- The value of decimal digits, given as bytes. -/
def dv (D : List Int) : Int := D.foldl (fun n c => n * 10 + (c - 48)) 0
/-- The value of the first k digits. -/
def dvk (D : List Int) (k : Nat) : Int := dv (D.take k)
/-- The first k bytes are digits. -/
def digs (D : List Int) (k : Nat) : Prop := ∀ i, i < k → 48 ≤ nth D i ∧ nth D i ≤ 57
def digB (D : List Int) : Bool := D.all fun c => decide (48 ≤ c) && decide (c ≤ 57)

/-- What a reader of the digits D answers behind a sign: the value and 'true', or 0 and 'false'. -/
def res (neg : Bool) (D : List Int) : Int × Bool :=
  if D.length = 0 then (0, false) else if digB D = false then (0, false) else
  if neg = true then (if dv D ≤ 9223372036854775808 then (-dv D, true) else (0, false))
  else (if dv D ≤ 9223372036854775807 then (dv D, true) else (0, false))
/-- Is there a '-' at the head? -/
def negOf (L : List Int) : Bool := decide (0 < L.length) && (nth L 0 == 45)
/-- What a reader of the whole text answers. -/
def parsed (L : List Int) : Int × Bool := if negOf L = true then res true L.tail else res false L

theorem nth_get (D : List Int) (k : Nat) (h : k < D.length) : nth D k = D[k] := by
  simp [nth, List.getD, h]
theorem nth_tail (L : List Int) (j : Nat) : nth L.tail j = nth L (j + 1) := by
  cases L <;> simp [nth, List.getD]
theorem nth_drop (L : List Int) (k j : Nat) : nth (L.drop k) j = nth L (k + j) := by
  simp [nth, List.getD]
theorem nth_take (L : List Int) (k j : Nat) (h : j < k) : nth (L.take k) j = nth L j := by
  simp [nth, List.getD, h]

theorem dvk_zero (D : List Int) : dvk D 0 = 0 := by simp [dvk, dv]
theorem dvk_succ (D : List Int) (k : Nat) (h : k < D.length) : dvk D (k + 1) = dvk D k * 10 + (nth D k - 48) := by
  unfold dvk dv
  rw [List.take_succ_eq_append_getElem h, List.foldl_append, nth_get D k h]
  rfl
theorem dvk_full (D : List Int) : dvk D D.length = dv D := by simp [dvk]
theorem dvk_nonneg (D : List Int) (k : Nat) (hk : k ≤ D.length) (h : digs D k) : 0 ≤ dvk D k := by
  induction k with
  | zero => rw [dvk_zero]; exact Int.le_refl 0
  | succ k ih =>
    have := ih (by omega) (fun i hi => h i (by omega))
    have h2 := h k (by omega)
    rw [dvk_succ D k (by omega)]
    omega
theorem dvk_mono (D : List Int) (k m : Nat) (hm : k + m ≤ D.length) (h : digs D (k + m)) : dvk D k ≤ dvk D (k + m) := by
  induction m with
  | zero => exact Int.le_refl _
  | succ m ih =>
    have := ih (by omega) (fun i hi => h i (by omega))
    have h0 := dvk_nonneg D (k + m) (by omega) (fun i hi => h i (by omega))
    have h2 := h (k + m) (by omega)
    have h3 := dvk_succ D (k + m) (by omega)
    rw [show k + (m + 1) = k + m + 1 by omega, h3]
    omega
theorem digB_true (D : List Int) (h : digs D D.length) : digB D = true := by
  unfold digB
  rw [List.all_eq_true]
  intro c hc
  obtain ⟨i, hi, rfl⟩ := List.getElem_of_mem hc
  have := h i hi
  rw [nth_get D i hi] at this
  simp [this]
theorem digB_get (D : List Int) (h : digB D = true) : digs D D.length := by
  intro i hi
  unfold digB at h
  rw [List.all_eq_true] at h
  have := h _ (List.getElem_mem hi)
  simp at this
  rw [nth_get D i hi]
  exact this

theorem res_empty (neg : Bool) (D : List Int) (h : D.length = 0) : res neg D = (0, false) := by simp [res, h]
theorem res_bad (neg : Bool) (D : List Int) (k : Nat) (hk : k < D.length) (h : ¬ (48 ≤ nth D k ∧ nth D k ≤ 57)) : res neg D = (0, false) := by
  have : digB D = false := by
    cases hb : digB D with
    | false => rfl
    | true => exact absurd (digB_get D hb k hk) h
  unfold res
  split
  · rfl
  · rfl
theorem res_big (neg : Bool) (D : List Int) (k : Nat) (hk : k ≤ D.length) (h : 9223372036854775808 < dvk D k) : res neg D = (0, false) := by
  unfold res
  split
  · rfl
  split
  · rfl
  · rename_i h1 h2
    have hd := digB_get D (by cases hb : digB D <;> simp_all)
    have := dvk_mono D k (D.length - k) (by omega) (by rw [show k + (D.length - k) = D.length by omega]; exact hd)
    rw [show k + (D.length - k) = D.length by omega, dvk_full] at this
    split
    · rw [if_neg (by omega)]
    · rw [if_neg (by omega)]
theorem res_neg (D : List Int) (h0 : 0 < D.length) (h : digs D D.length) (hv : dv D ≤ 9223372036854775808) : res true D = (-dv D, true) := by
  unfold res
  rw [if_neg (by omega), digB_true D h]
  simp [hv]
theorem res_pos (D : List Int) (h0 : 0 < D.length) (h : digs D D.length) (hv : dv D ≤ 9223372036854775807) : res false D = (dv D, true) := by
  unfold res
  rw [if_neg (by omega), digB_true D h]
  simp [hv]
theorem res_pos_big (D : List Int) (hv : 9223372036854775807 < dv D) : res false D = (0, false) := by
  unfold res
  split
  · rfl
  split
  · rfl
  · simp; omega
end Go.Proofs.Qxb6601004aDoor
