/-
  The plain side: the decimal numeral of an int64 ('Lib.itoa', the shelf's own function) as numbers: its digits, its head, its length, its value. No Go in sight. Ours.
-/
import Derived.Test.Qxb6601004aDoorPlain
import Derived.Lib.ItoaNum
namespace Go.Proofs.Qxb6601004aDoor

/-- Bytes as numbers. -/
def nums (l : List UInt8) : List Int := l.map fun c => (c.toNat : Int)
/-- The digits of u. -/
def digI (u : Nat) : List Int := nums (Lib.decDigits u)
/-- The numeral of i. -/
def txt (i : Int) : List Int := nums (Lib.itoa i)

theorem dv_snoc (D : List Int) (c : Int) : dv (D ++ [c]) = dv D * 10 + (c - 48) := by
  unfold dv
  rw [List.foldl_append]
  rfl
theorem byte_of (d : Nat) (h : d < 10) : ((UInt8.ofNat (48 + d)).toNat : Int) = 48 + d := by
  rw [UInt8.toNat_ofNat']
  omega
theorem digI_small (u : Nat) (h : u < 10) : digI u = [48 + (u : Int)] := by
  unfold digI nums
  rw [Lib.decDigits, dif_pos h, List.map_cons, List.map_nil, byte_of u h]
theorem digI_big (u : Nat) (h : ¬ u < 10) : digI u = digI (u / 10) ++ [48 + ((u % 10 : Nat) : Int)] := by
  unfold digI nums
  rw [Lib.decDigits, dif_neg h, List.map_append, List.map_cons, List.map_nil, byte_of (u % 10) (by omega)]

theorem digI_mem (u : Nat) : ∀ c ∈ digI u, 48 ≤ c ∧ c ≤ 57 := by
  induction u using Nat.strongRecOn with
  | ind u ih =>
    intro c hc
    by_cases h : u < 10
    · rw [digI_small u h] at hc
      simp at hc
      omega
    · rw [digI_big u h] at hc
      rcases List.mem_append.1 hc with hc | hc
      · exact ih (u / 10) (by omega) c hc
      · simp at hc
        omega
theorem digI_value (u : Nat) : dv (digI u) = u := by
  induction u using Nat.strongRecOn with
  | ind u ih =>
    by_cases h : u < 10
    · rw [digI_small u h]
      simp [dv]
      omega
    · rw [digI_big u h, dv_snoc, ih (u / 10) (by omega)]
      omega
theorem digI_pos (u : Nat) : 0 < (digI u).length := by
  by_cases h : u < 10
  · rw [digI_small u h]
    simp
  · rw [digI_big u h]
    simp
theorem digI_head (u : Nat) (hu : u ≠ 0) : nth (digI u) 0 ≠ 48 := by
  induction u using Nat.strongRecOn with
  | ind u ih =>
    by_cases h : u < 10
    · rw [digI_small u h]
      simp [nth]
      omega
    · have h1 := ih (u / 10) (by omega) (by omega)
      have h2 := digI_pos (u / 10)
      rw [digI_big u h]
      unfold nth List.getD at *
      rw [List.getElem?_append_left h2]
      exact h1
theorem digI_length (k u : Nat) (h : u < 10 ^ (k + 1)) : (digI u).length ≤ k + 1 := by
  induction k generalizing u with
  | zero =>
    rw [digI_small u (by simpa using h)]
    simp
  | succ k ih =>
    by_cases h1 : u < 10
    · rw [digI_small u h1]
      simp
    · have h2 := ih (u / 10) (by rw [Nat.pow_succ] at h; omega)
      rw [digI_big u h1, List.length_append]
      simp
      omega
theorem digI_digs (u : Nat) : digs (digI u) (digI u).length := by
  intro i hi
  rw [nth_get _ i hi]
  exact digI_mem u _ (List.getElem_mem hi)
theorem digI_19 (u : Nat) (h : u ≤ 9223372036854775808) : (digI u).length ≤ 19 := digI_length 18 u (Nat.lt_of_le_of_lt h (by decide))

theorem txt_nonneg (i : Int) (h : 0 ≤ i) : txt i = digI i.toNat := by
  unfold txt Lib.itoa
  rw [if_neg (by omega)]
  rfl
theorem txt_neg (i : Int) (h : i < 0) : txt i = 45 :: digI i.natAbs := by
  unfold txt Lib.itoa
  rw [if_pos h]
  rfl
theorem nums_mem (l : List UInt8) : ∀ c ∈ nums l, 0 ≤ c ∧ c ≤ 255 := by
  intro c hc
  simp only [nums, List.mem_map] at hc
  obtain ⟨u, _, rfl⟩ := hc
  have := u.toNat_lt
  omega
theorem txt_length (i : Int) (h0 : -9223372036854775808 ≤ i) (h1 : i ≤ 9223372036854775807) : 1 ≤ (txt i).length ∧ (txt i).length ≤ 20 := by
  by_cases h : i < 0
  · rw [txt_neg i h]
    have a := digI_pos i.natAbs
    have b := digI_19 i.natAbs (by omega)
    simp only [List.length_cons]
    omega
  · rw [txt_nonneg i (by omega)]
    have a := digI_pos i.toNat
    have b := digI_19 i.toNat (by omega)
    omega

/-- What a reader answers to the numeral of i: i itself. -/
theorem parsed_txt (i : Int) (h0 : -9223372036854775808 ≤ i) (h1 : i ≤ 9223372036854775807) : parsed (txt i) = (i, true) := by
  by_cases h : i < 0
  · have e : parsed (txt i) = res true (digI i.natAbs) := by
      unfold parsed negOf
      rw [txt_neg i h, if_pos (by simp [nth])]
      rfl
    have hv := digI_value i.natAbs
    rw [e, res_neg _ (digI_pos _) (digI_digs _) (by omega), hv]
    congr 1
    omega
  · have e : parsed (txt i) = res false (digI i.toNat) := by
      have hd := digI_digs i.toNat 0 (digI_pos _)
      unfold parsed negOf
      rw [txt_nonneg i (by omega), if_neg]
      simp
      intro _
      omega
    have hv := digI_value i.toNat
    rw [e, res_pos _ (digI_pos _) (digI_digs _) (by omega), hv]
    congr 1
    omega
end Go.Proofs.Qxb6601004aDoor
