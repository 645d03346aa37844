/-
  The plain side: a NIP-01 string's encoding as a function on numbers. No Go in sight. Ours.
-/
namespace Go.Proofs.Qxb6600981a

/-- One byte, as appendString writes it. -/
def esc1 (c : Int) : List Int :=
  if c = 10 then [92, 110] else if c = 34 then [92, 34] else if c = 92 then [92, 92] else if c = 13 then [92, 114] else
  if c = 9 then [92, 116] else if c = 8 then [92, 98] else if c = 12 then [92, 102] else [c]
/-- A text's bytes, as appendString writes them between the quotes. -/
def enc : List Int → List Int
  | [] => []
  | c :: t => esc1 c ++ enc t
/-- With the quotes. -/
def full (l : List Int) : List Int := 34 :: (enc l ++ [34])
/-- A string's bytes as numbers. -/
def byt (s : ByteArray) : List Int := s.data.toList.map fun c => (c.toNat : Int)

theorem esc1_length (c : Int) : 1 ≤ (esc1 c).length ∧ (esc1 c).length ≤ 2 := by
  unfold esc1
  repeat (first | split | simp)
theorem enc_append (a b : List Int) : enc (a ++ b) = enc a ++ enc b := by
  induction a with
  | nil => rfl
  | cons c t ih => simp [enc, ih]
theorem enc_length (l : List Int) : (enc l).length ≤ 2 * l.length := by
  induction l with
  | nil => simp [enc]
  | cons c t ih =>
    have := esc1_length c
    simp only [enc, List.length_append, List.length_cons]
    omega
theorem byt_length (s : ByteArray) : (byt s).length = s.size := by
  simp [byt]
theorem byt_append (s t : ByteArray) : byt (s ++ t) = byt s ++ byt t := by
  simp [byt, ByteArray.data_append]
theorem byt_get (s : ByteArray) (k : Nat) (h : k < s.size) : (byt s)[k]'(by rw [byt_length]; exact h) = (s[k].toNat : Int) := by
  simp [byt]
  rfl
theorem byt_take (s : ByteArray) (k : Nat) (h : k < s.size) : (byt s).take (k + 1) = (byt s).take k ++ [(s[k].toNat : Int)] := by
  rw [List.take_succ_eq_append_getElem (by rw [byt_length]; exact h), byt_get s k h]
theorem byt_range (s : ByteArray) : ∀ c ∈ byt s, 0 ≤ c ∧ c ≤ 255 := by
  intro c hc
  simp only [byt, List.mem_map] at hc
  obtain ⟨u, _, rfl⟩ := hc
  have := u.toNat_lt
  omega
theorem enc_snoc (l : List Int) (c : Int) : enc (l ++ [c]) = enc l ++ esc1 c := by
  rw [enc_append]
  simp [enc]

/-- What appendString has written behind 'xs' when k bytes of s are done. -/
def acc (xs : List Int) (s : ByteArray) (k : Nat) : List Int := xs ++ 34 :: enc ((byt s).take k)

theorem acc_zero (xs : List Int) (s : ByteArray) : acc xs s 0 = xs ++ [34] := by simp [acc, enc]
theorem acc_succ (xs : List Int) (s : ByteArray) (k : Nat) (h : k < s.size) : acc xs s (k + 1) = acc xs s k ++ esc1 (s[k].toNat : Int) := by
  unfold acc
  rw [byt_take s k h, enc_snoc]
  simp
theorem acc_end (xs : List Int) (s : ByteArray) : acc xs s s.size ++ [34] = xs ++ full (byt s) := by
  unfold acc full
  rw [List.take_of_length_le (by rw [byt_length]; exact Nat.le_refl _)]
  simp
theorem acc_length (xs : List Int) (s : ByteArray) (k : Nat) : (acc xs s k).length ≤ xs.length + 1 + 2 * k := by
  unfold acc
  have := enc_length ((byt s).take k)
  have h2 : ((byt s).take k).length ≤ k := List.length_take_le _ _
  simp only [List.length_append, List.length_cons]
  omega
end Go.Proofs.Qxb6600981a
