/-
  The walk of 'nb1ParseString' (function 8) at a text that appendString has written, with 'nb1Unescape' (11) and 'nb1MustEscape' (12) under it. Ours.
-/
import Derived.Test.Qxb6600981aApp
import Derived.Laws.IdiomStrings
import Derived.Deep.QuietTactic
import Derived.BigQuiet
namespace Go.Proofs.Qxb6600981a
open Go.RowKit
set_option linter.unusedVariables false

theorem nth_left (A B : List Int) (i : Nat) (h : i < A.length) : nth (A ++ B) i = nth A i := by
  simp [nth, List.getD, List.getElem?_append_left h]
theorem nth_right (A B : List Int) (i : Nat) : nth (A ++ B) (A.length + i) = nth B i := by
  unfold nth List.getD
  rw [List.getElem?_append_right (by omega), Nat.add_sub_cancel_left]

/-- Where the decoder stands when it has read k bytes of s. -/
def pos (n : Nat) (s : ByteArray) (k : Nat) : Nat := n + 1 + (enc ((byt s).take k)).length

theorem pos_zero (n : Nat) (s : ByteArray) : pos n s 0 = n + 1 := by simp [pos, enc]
theorem pos_succ (n : Nat) (s : ByteArray) (k : Nat) (h : k < s.size) : pos n s (k + 1) = pos n s k + (esc1 (s[k].toNat : Int)).length := by
  unfold pos
  rw [byt_take s k h, enc_snoc, List.length_append]
  omega

theorem split_at (xs : List Int) (s : ByteArray) (k : Nat) (h : k < s.size) :
    xs ++ full (byt s) = (xs ++ 34 :: enc ((byt s).take k)) ++ (esc1 (s[k].toNat : Int) ++ (enc ((byt s).drop (k + 1)) ++ [34])) := by
  have e : byt s = (byt s).take (k + 1) ++ (byt s).drop (k + 1) := (List.take_append_drop _ _).symm
  have e2 : enc (byt s) = enc ((byt s).take k) ++ (esc1 (s[k].toNat : Int) ++ enc ((byt s).drop (k + 1))) := by
    have e3 := congrArg enc e
    rw [enc_append, byt_take s k h, enc_snoc, List.append_assoc] at e3
    exact e3
  unfold full
  rw [e2]
  simp

/-- What the decoder sees of the k-th byte. -/
theorem sees (xs : List Int) (s : ByteArray) (k i : Nat) (h : k < s.size) (hi : i < (esc1 (s[k].toNat : Int)).length) :
    nth (xs ++ full (byt s)) (pos xs.length s k + i) = nth (esc1 (s[k].toNat : Int)) i := by
  have hl : pos xs.length s k = (xs ++ 34 :: enc ((byt s).take k)).length := by
    unfold pos
    simp only [List.length_append, List.length_cons]
    omega
  rw [split_at xs s k h, hl, nth_right, nth_left _ _ i hi]

theorem sees_end (xs : List Int) (s : ByteArray) : nth (xs ++ full (byt s)) (pos xs.length s s.size) = 34 := by
  have hl : pos xs.length s s.size = (xs ++ 34 :: enc (byt s)).length + 0 := by
    unfold pos
    rw [List.take_of_length_le (by rw [byt_length]; exact Nat.le_refl _)]
    simp only [List.length_append, List.length_cons]
    omega
  have e : xs ++ full (byt s) = (xs ++ 34 :: enc (byt s)) ++ [34] := by simp [full]
  rw [e, hl, nth_right]
  rfl

theorem sees_first (xs : List Int) (s : ByteArray) : nth (xs ++ full (byt s)) xs.length = 34 := by
  have := nth_right xs (full (byt s)) 0
  rw [Nat.add_zero] at this
  rw [this]
  rfl

theorem full_end (xs : List Int) (s : ByteArray) : (xs ++ full (byt s)).length = pos xs.length s s.size + 1 := by
  unfold pos full
  rw [List.take_of_length_le (by rw [byt_length]; exact Nat.le_refl _)]
  simp only [List.length_append, List.length_cons, List.length_nil]
  omega

theorem pos_le (n : Nat) (s : ByteArray) (k : Nat) (h : k ≤ s.size) : pos n s k ≤ pos n s s.size := by
  unfold pos
  have e : byt s = (byt s).take k ++ (byt s).drop k := (List.take_append_drop _ _).symm
  have : enc ((byt s).take s.size) = enc ((byt s).take k) ++ enc ((byt s).drop k) := by
    rw [List.take_of_length_le (by rw [byt_length]; exact Nat.le_refl _), ← enc_append, ← e]
  rw [this, List.length_append]
  omega

theorem pos_bound (n : Nat) (s : ByteArray) (k : Nat) : pos n s k ≤ n + 1 + 2 * k := by
  unfold pos
  have := enc_length ((byt s).take k)
  have h2 : ((byt s).take k).length ≤ k := List.length_take_le _ _
  omega

theorem ret3 {s : ByteArray} {a b : Int} (h : a = b) : Ending.returned (.tuple #[.string s, .int .i64 a, .bool true]) = .returned (.tuple #[.string s, .int .i64 b, .bool true]) := by rw [h]

theorem bytes_cell (s : ByteArray) (j : Nat) (hj : j < s.data.toList.length) : (cellsOf (byt s))[j]? = some (.int .u8 (s.data.toList[j].toNat : Int)) := by
  unfold cellsOf byt
  rw [List.getElem?_map, List.getElem?_map, List.getElem?_eq_getElem hj]
  rfl

theorem got_step {B : Nat} {w1 : World} {v' : Value} {s : ByteArray} {k : Nat} {c : Int} (h : w1.ownsRow B 5 1 v' (k + 1) (cellsOf ((byt s).take k) ++ [.int .u8 c])) (hk : k < s.size) (hc : (s[k].toNat : Int) = c) :
    w1.ownsRow B 5 1 v' (k + 1) (cellsOf ((byt s).take (k + 1))) := by
  rw [byt_take s k hk, cellsOf_append, hc]
  exact h

set_option maxRecDepth 100000 in
set_option maxHeartbeats 2000000 in
theorem parse_any (g cap n N : Nat) (L : List Int) (s : ByteArray) (w : World) (hg : g < w.heap.size) (hc : ∀ j, j < N → w.cell? ⟨g, j, none⟩ = some (.int .u8 (nth L j)))
    (hn : n ≤ 1048576) (hs : s.size ≤ 1048576) (hN : N ≤ pos n s s.size + 1) (hN2 : pos n s s.size + 1 ≤ N)
    (q0 : Hid (nth L n = 34)) (q1 : Hid (∀ k i (h : k < s.size), i < (esc1 (s[k].toNat : Int)).length → nth L (pos n s k + i) = nth (esc1 (s[k].toNat : Int)) i)) (q2 : Hid (nth L (pos n s s.size) = 34)) :
    Calls Try.prog 8 #[.slice (some ⟨g, 0, none⟩) N cap, .int .i64 n] w fun e w' => e = .returned (.tuple #[.string s, .int .i64 N, .bool true]) ∧ Below w.heap.size w w' := by
  obtain ⟨i0, hi, hz0, hz1, hz2⟩ := info_parts info5
  have hp0 : Hid (pos n s 0 = n + 1) := pos_zero n s
  have hp1 := pos_le n s 0 (by omega)
  rw [pos_zero] at hp1
  have hp2 := pos_bound n s s.size
  have f0 := hc n (by omega)
  have f1 := q0.out
  have d0 : decide ((n : Int) < 0) = false := by simp
  have d1 : decide ((N : Int) ≤ (n : Int)) = false := by simp; omega
  have HC : Hid (∀ j, j < N → w.cell? ⟨g, j, none⟩ = some (.int .u8 (nth L j))) := hc
  clear hc
  go_enter Try.func8, Try.ntmps8
  go_wp2_with (at_make; refine wpList_make_own _ rfl _ _ 22 rfl w.heap.size 5 i0 (.int .u8 0) 1 Try.underlying22 hi hz0 hz1 _ _ _ 0 rfl rfl rfl (by omega) (by unfold maxLen; omega) (Nat.le_refl _) ?_; intro w1 hown1 hgrow1)
  have hb1 : Below w.heap.size w w1 := (Below.refl _ _).grown hgrow1 (Nat.le_refl _) (fun k h => by cases h)
  have hown0 : w1.ownsRow w.heap.size 5 1 (.slice (some ⟨w.heap.size, 0, none⟩) 0 0) 0 (cellsOf ((byt s).take 0)) := hown1
  clear hown1 hgrow1 f0 f1
  go_loopw [7, 8] (fun v j wr => ∃ k : Nat, k ≤ s.size ∧ j = .int .i64 (pos n s k : Nat) ∧ wr.ownsRow w.heap.size 5 1 v k (cellsOf ((byt s).take k)) ∧ Below w.heap.size w wr ∧ v ≠ .slice none 0 0)
    (fun _ j _ => N - (intOf j).toNat)
  case atStart => exact ⟨0, Nat.zero_le _, by rw [hp0.out]; go_num, hown0, hb1, by intro h; cases h⟩
  case round =>
    clear hown0 hb1
    obtain ⟨k, hk, rfl, hown, hb, hne⟩ := hrel
    have hsz := hb.size
    have hpk := pos_le n s k hk
    by_cases hlt : k < s.size
    · rcases cases8 (s[k].toNat : Int) with ⟨dd, he⟩ | ⟨d1, dd, he⟩ | ⟨d1, d2, dd, he⟩ | ⟨d1, d2, d3, dd, he⟩ | ⟨d1, d2, d3, d4, dd, he⟩ | ⟨d1, d2, d3, d4, d5, dd, he⟩ | ⟨d1, d2, d3, d4, d5, d6, dd, he⟩ | ⟨d1, d2, d3, d4, d5, d6, d7, he⟩
      · have hps : Hid (pos n s (k + 1) = pos n s k + 2) := by
          have := pos_succ n s k hlt
          rw [he.out] at this
          exact this
        have hpl := pos_le n s (k + 1) (by omega)
        rw [hps.out] at hpl
        have a1 : wr.cell? ⟨g, pos n s k, none⟩ = some (.int .u8 92) := by
          have h0 := q1.out k 0 hlt (by rw [he.out]; decide)
          rw [he.out, Nat.add_zero] at h0
          rw [hb.cell hg, HC.out _ (by omega), h0]
          rfl
        have a2 : wr.cell? ⟨g, pos n s k + 1, none⟩ = some (.int .u8 110) := by
          have h0 := q1.out k 1 hlt (by rw [he.out]; decide)
          rw [he.out] at h0
          rw [hb.cell hg, HC.out _ (by omega), h0]
          rfl
        have hcc : Hid ((s[k].toNat : Int) = 10) := eq_of_beq dd
        clear dd
        go_wp2_with (first | (at_builtin; refine wpList_append_own _ rfl _ _ 22 rfl w.heap.size 5 i0 (.int .u8 0) 1 1 Try.underlying22 hi hz0 hz1 hz2 rfl (by decide) _ _ _ rfl (hown.alloc _) ⟨wr.heap.size, 0, none⟩ 1 1 [.int .u8 10] rfl rfl (cell_one_new _ _ _) (one_ok _) (by unfold maxLen; omega) (by omega) (by simp; omega) ?_; intro v2 w2 hown2 hgrow2 hne2) | go_in)
        go_roundw
        case rel => exact ⟨k + 1, by omega, by rw [hps.out]; go_num, got_step hown2 hlt hcc.out, (hb.alloc hsz _).grown hgrow2 (by simp; omega) (fun g hg => (hown.lt g hg).1), fun h => by have := hne2.1 h; omega⟩
        case measure => simp [intOf]; omega
      · have hps : Hid (pos n s (k + 1) = pos n s k + 2) := by
          have := pos_succ n s k hlt
          rw [he.out] at this
          exact this
        have hpl := pos_le n s (k + 1) (by omega)
        rw [hps.out] at hpl
        have a1 : wr.cell? ⟨g, pos n s k, none⟩ = some (.int .u8 92) := by
          have h0 := q1.out k 0 hlt (by rw [he.out]; decide)
          rw [he.out, Nat.add_zero] at h0
          rw [hb.cell hg, HC.out _ (by omega), h0]
          rfl
        have a2 : wr.cell? ⟨g, pos n s k + 1, none⟩ = some (.int .u8 34) := by
          have h0 := q1.out k 1 hlt (by rw [he.out]; decide)
          rw [he.out] at h0
          rw [hb.cell hg, HC.out _ (by omega), h0]
          rfl
        have hcc : Hid ((s[k].toNat : Int) = 34) := eq_of_beq dd
        clear dd
        go_wp2_with (first | (at_builtin; refine wpList_append_own _ rfl _ _ 22 rfl w.heap.size 5 i0 (.int .u8 0) 1 1 Try.underlying22 hi hz0 hz1 hz2 rfl (by decide) _ _ _ rfl (hown.alloc _) ⟨wr.heap.size, 0, none⟩ 1 1 [.int .u8 34] rfl rfl (cell_one_new _ _ _) (one_ok _) (by unfold maxLen; omega) (by omega) (by simp; omega) ?_; intro v2 w2 hown2 hgrow2 hne2) | go_in)
        go_roundw
        case rel => exact ⟨k + 1, by omega, by rw [hps.out]; go_num, got_step hown2 hlt hcc.out, (hb.alloc hsz _).grown hgrow2 (by simp; omega) (fun g hg => (hown.lt g hg).1), fun h => by have := hne2.1 h; omega⟩
        case measure => simp [intOf]; omega
      · have hps : Hid (pos n s (k + 1) = pos n s k + 2) := by
          have := pos_succ n s k hlt
          rw [he.out] at this
          exact this
        have hpl := pos_le n s (k + 1) (by omega)
        rw [hps.out] at hpl
        have a1 : wr.cell? ⟨g, pos n s k, none⟩ = some (.int .u8 92) := by
          have h0 := q1.out k 0 hlt (by rw [he.out]; decide)
          rw [he.out, Nat.add_zero] at h0
          rw [hb.cell hg, HC.out _ (by omega), h0]
          rfl
        have a2 : wr.cell? ⟨g, pos n s k + 1, none⟩ = some (.int .u8 92) := by
          have h0 := q1.out k 1 hlt (by rw [he.out]; decide)
          rw [he.out] at h0
          rw [hb.cell hg, HC.out _ (by omega), h0]
          rfl
        have hcc : Hid ((s[k].toNat : Int) = 92) := eq_of_beq dd
        clear dd
        go_wp2_with (first | (at_builtin; refine wpList_append_own _ rfl _ _ 22 rfl w.heap.size 5 i0 (.int .u8 0) 1 1 Try.underlying22 hi hz0 hz1 hz2 rfl (by decide) _ _ _ rfl (hown.alloc _) ⟨wr.heap.size, 0, none⟩ 1 1 [.int .u8 92] rfl rfl (cell_one_new _ _ _) (one_ok _) (by unfold maxLen; omega) (by omega) (by simp; omega) ?_; intro v2 w2 hown2 hgrow2 hne2) | go_in)
        go_roundw
        case rel => exact ⟨k + 1, by omega, by rw [hps.out]; go_num, got_step hown2 hlt hcc.out, (hb.alloc hsz _).grown hgrow2 (by simp; omega) (fun g hg => (hown.lt g hg).1), fun h => by have := hne2.1 h; omega⟩
        case measure => simp [intOf]; omega
      · have hps : Hid (pos n s (k + 1) = pos n s k + 2) := by
          have := pos_succ n s k hlt
          rw [he.out] at this
          exact this
        have hpl := pos_le n s (k + 1) (by omega)
        rw [hps.out] at hpl
        have a1 : wr.cell? ⟨g, pos n s k, none⟩ = some (.int .u8 92) := by
          have h0 := q1.out k 0 hlt (by rw [he.out]; decide)
          rw [he.out, Nat.add_zero] at h0
          rw [hb.cell hg, HC.out _ (by omega), h0]
          rfl
        have a2 : wr.cell? ⟨g, pos n s k + 1, none⟩ = some (.int .u8 114) := by
          have h0 := q1.out k 1 hlt (by rw [he.out]; decide)
          rw [he.out] at h0
          rw [hb.cell hg, HC.out _ (by omega), h0]
          rfl
        have hcc : Hid ((s[k].toNat : Int) = 13) := eq_of_beq dd
        clear dd
        go_wp2_with (first | (at_builtin; refine wpList_append_own _ rfl _ _ 22 rfl w.heap.size 5 i0 (.int .u8 0) 1 1 Try.underlying22 hi hz0 hz1 hz2 rfl (by decide) _ _ _ rfl (hown.alloc _) ⟨wr.heap.size, 0, none⟩ 1 1 [.int .u8 13] rfl rfl (cell_one_new _ _ _) (one_ok _) (by unfold maxLen; omega) (by omega) (by simp; omega) ?_; intro v2 w2 hown2 hgrow2 hne2) | go_in)
        go_roundw
        case rel => exact ⟨k + 1, by omega, by rw [hps.out]; go_num, got_step hown2 hlt hcc.out, (hb.alloc hsz _).grown hgrow2 (by simp; omega) (fun g hg => (hown.lt g hg).1), fun h => by have := hne2.1 h; omega⟩
        case measure => simp [intOf]; omega
      · have hps : Hid (pos n s (k + 1) = pos n s k + 2) := by
          have := pos_succ n s k hlt
          rw [he.out] at this
          exact this
        have hpl := pos_le n s (k + 1) (by omega)
        rw [hps.out] at hpl
        have a1 : wr.cell? ⟨g, pos n s k, none⟩ = some (.int .u8 92) := by
          have h0 := q1.out k 0 hlt (by rw [he.out]; decide)
          rw [he.out, Nat.add_zero] at h0
          rw [hb.cell hg, HC.out _ (by omega), h0]
          rfl
        have a2 : wr.cell? ⟨g, pos n s k + 1, none⟩ = some (.int .u8 116) := by
          have h0 := q1.out k 1 hlt (by rw [he.out]; decide)
          rw [he.out] at h0
          rw [hb.cell hg, HC.out _ (by omega), h0]
          rfl
        have hcc : Hid ((s[k].toNat : Int) = 9) := eq_of_beq dd
        clear dd
        go_wp2_with (first | (at_builtin; refine wpList_append_own _ rfl _ _ 22 rfl w.heap.size 5 i0 (.int .u8 0) 1 1 Try.underlying22 hi hz0 hz1 hz2 rfl (by decide) _ _ _ rfl (hown.alloc _) ⟨wr.heap.size, 0, none⟩ 1 1 [.int .u8 9] rfl rfl (cell_one_new _ _ _) (one_ok _) (by unfold maxLen; omega) (by omega) (by simp; omega) ?_; intro v2 w2 hown2 hgrow2 hne2) | go_in)
        go_roundw
        case rel => exact ⟨k + 1, by omega, by rw [hps.out]; go_num, got_step hown2 hlt hcc.out, (hb.alloc hsz _).grown hgrow2 (by simp; omega) (fun g hg => (hown.lt g hg).1), fun h => by have := hne2.1 h; omega⟩
        case measure => simp [intOf]; omega
      · have hps : Hid (pos n s (k + 1) = pos n s k + 2) := by
          have := pos_succ n s k hlt
          rw [he.out] at this
          exact this
        have hpl := pos_le n s (k + 1) (by omega)
        rw [hps.out] at hpl
        have a1 : wr.cell? ⟨g, pos n s k, none⟩ = some (.int .u8 92) := by
          have h0 := q1.out k 0 hlt (by rw [he.out]; decide)
          rw [he.out, Nat.add_zero] at h0
          rw [hb.cell hg, HC.out _ (by omega), h0]
          rfl
        have a2 : wr.cell? ⟨g, pos n s k + 1, none⟩ = some (.int .u8 98) := by
          have h0 := q1.out k 1 hlt (by rw [he.out]; decide)
          rw [he.out] at h0
          rw [hb.cell hg, HC.out _ (by omega), h0]
          rfl
        have hcc : Hid ((s[k].toNat : Int) = 8) := eq_of_beq dd
        clear dd
        go_wp2_with (first | (at_builtin; refine wpList_append_own _ rfl _ _ 22 rfl w.heap.size 5 i0 (.int .u8 0) 1 1 Try.underlying22 hi hz0 hz1 hz2 rfl (by decide) _ _ _ rfl (hown.alloc _) ⟨wr.heap.size, 0, none⟩ 1 1 [.int .u8 8] rfl rfl (cell_one_new _ _ _) (one_ok _) (by unfold maxLen; omega) (by omega) (by simp; omega) ?_; intro v2 w2 hown2 hgrow2 hne2) | go_in)
        go_roundw
        case rel => exact ⟨k + 1, by omega, by rw [hps.out]; go_num, got_step hown2 hlt hcc.out, (hb.alloc hsz _).grown hgrow2 (by simp; omega) (fun g hg => (hown.lt g hg).1), fun h => by have := hne2.1 h; omega⟩
        case measure => simp [intOf]; omega
      · have hps : Hid (pos n s (k + 1) = pos n s k + 2) := by
          have := pos_succ n s k hlt
          rw [he.out] at this
          exact this
        have hpl := pos_le n s (k + 1) (by omega)
        rw [hps.out] at hpl
        have a1 : wr.cell? ⟨g, pos n s k, none⟩ = some (.int .u8 92) := by
          have h0 := q1.out k 0 hlt (by rw [he.out]; decide)
          rw [he.out, Nat.add_zero] at h0
          rw [hb.cell hg, HC.out _ (by omega), h0]
          rfl
        have a2 : wr.cell? ⟨g, pos n s k + 1, none⟩ = some (.int .u8 102) := by
          have h0 := q1.out k 1 hlt (by rw [he.out]; decide)
          rw [he.out] at h0
          rw [hb.cell hg, HC.out _ (by omega), h0]
          rfl
        have hcc : Hid ((s[k].toNat : Int) = 12) := eq_of_beq dd
        clear dd
        go_wp2_with (first | (at_builtin; refine wpList_append_own _ rfl _ _ 22 rfl w.heap.size 5 i0 (.int .u8 0) 1 1 Try.underlying22 hi hz0 hz1 hz2 rfl (by decide) _ _ _ rfl (hown.alloc _) ⟨wr.heap.size, 0, none⟩ 1 1 [.int .u8 12] rfl rfl (cell_one_new _ _ _) (one_ok _) (by unfold maxLen; omega) (by omega) (by simp; omega) ?_; intro v2 w2 hown2 hgrow2 hne2) | go_in)
        go_roundw
        case rel => exact ⟨k + 1, by omega, by rw [hps.out]; go_num, got_step hown2 hlt hcc.out, (hb.alloc hsz _).grown hgrow2 (by simp; omega) (fun g hg => (hown.lt g hg).1), fun h => by have := hne2.1 h; omega⟩
        case measure => simp [intOf]; omega
      · have hps : Hid (pos n s (k + 1) = pos n s k + 1) := by
          have := pos_succ n s k hlt
          rw [he.out] at this
          exact this
        have hpl := pos_le n s (k + 1) (by omega)
        rw [hps.out] at hpl
        have a1 : wr.cell? ⟨g, pos n s k, none⟩ = some (.int .u8 (s[k].toNat : Int)) := by
          have h0 := q1.out k 0 hlt (by rw [he.out]; exact Nat.one_pos)
          rw [he.out, Nat.add_zero] at h0
          rw [hb.cell hg, HC.out _ (by omega), h0]
          rfl
        go_wp2_with (first | (at_builtin; refine wpList_append_own _ rfl _ _ 22 rfl w.heap.size 5 i0 (.int .u8 0) 1 1 Try.underlying22 hi hz0 hz1 hz2 rfl (by decide) _ _ _ rfl (hown.alloc _) ⟨wr.heap.size, 0, none⟩ 1 1 [.int .u8 (s[k].toNat : Int)] rfl rfl (cell_one_new _ _ _) (one_ok _) (by unfold maxLen; omega) (by omega) (by simp; omega) ?_; intro v2 w2 hown2 hgrow2 hne2) | go_in)
        go_roundw
        case rel => exact ⟨k + 1, by omega, by rw [hps.out]; go_num, got_step hown2 hlt rfl, (hb.alloc hsz _).grown hgrow2 (by simp; omega) (fun g hg => (hown.lt g hg).1), fun h => by have := hne2.1 h; omega⟩
        case measure => simp [intOf]; omega
    · have ek : k = s.size := by omega
      have a1 : wr.cell? ⟨g, pos n s k, none⟩ = some (.int .u8 34) := by
        rw [hb.cell hg, HC.out _ (by omega), ek, q2.out]
      have hN3 : N ≤ pos n s k + 1 := by rw [ek]; exact hN
      have hN4 : pos n s k + 1 ≤ N := by rw [ek]; exact hN2
      have hkey : ∀ g' c', wr.ownsRow w.heap.size 5 1 (.slice (some ⟨g', 0, none⟩) k c') k (cellsOf ((byt s).take k)) →
          (convert 22 9 (.slice (some ⟨g', 0, none⟩) k c')).run Try.prog wr = .ok (.string s) wr := fun g' c' ho => by
        have hl : s.data.toList.length = k := by rw [ek]; rfl
        have hcv := run_convert_bytes_back (P := Try.prog) wr 22 9 5 ⟨g', 0, none⟩ c' s.data.toList Try.underlying22 Try.underlying5 Try.underlying9 (fun j hj => ho.cells (g := g') rfl j _ (by
          rw [List.take_of_length_le (by rw [byt_length]; omega)]
          exact bytes_cell s j hj))
        rw [hl] at hcv
        exact hcv
      have hex : ∃ g' c', u7 = Value.slice (some ⟨g', 0, none⟩) k c' := by
        rcases hown.2 with ⟨h, _⟩ | ⟨g', c', _, hv, _⟩
        · exact absurd h hne
        · exact ⟨g', c', hv⟩
      obtain ⟨g', c', hv⟩ := hex
      rw [hv] at hown
      have hcv := hkey g' c' hown
      clear hkey hown hne ek
      rw [hv]
      clear hv
      go_wp2
      go_ret3
      exact ⟨ret3 (a := (pos n s k : Int) + 1) (by omega), hb⟩
end Go.Proofs.Qxb6600981a
