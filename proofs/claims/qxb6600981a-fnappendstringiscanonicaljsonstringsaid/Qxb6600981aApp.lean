/-
  The walk of 'appendString' (function 10) and of its shim (function 7). Ours.
-/
import Derived.Test.Qxb6600981aClone
import Derived.Test.Qxb6600981aPlain
import Derived.Lib.AppendStr
import Derived.ArgAppend
namespace Go.Proofs.Qxb6600981a
open Go.RowKit
set_option linter.unusedVariables false

theorem own_step {B : Nat} {w1 : World} {v' : Value} {L M : List Int} {n m : Nat} {xs : List Value} (h : w1.ownsRow B 5 1 v' (n + m) xs) (hn : L.length = n) (hm : M.length = m) (hx : xs = cellsOf L ++ cellsOf M) :
    w1.ownsRow B 5 1 v' (L ++ M).length (cellsOf (L ++ M)) := by
  rw [cellsOf_append, List.length_append, hn, hm, ← hx]
  exact h

theorem one_ok (c : Int) : ∀ u ∈ [Value.int .u8 c], u.oneCell' = true := by
  intro u hu
  simp at hu
  subst hu
  rfl
theorem bd1 {a : Nat} {t : ByteArray} (ht : t.size = 2) (h : a ≤ 4000000) : a + t.size ≤ maxLen := by
  unfold maxLen
  omega
theorem bd2 {a : Nat} {t : ByteArray} (ht : t.size = 2) (h : a ≤ 4000000) : a + t.size ≤ 140737488355328 := by
  omega
/-- The seven escaped bytes, and every other. -/
theorem cases8 (c : Int) : ((c == 10) = true ∧ Hid (esc1 c = [92, 110])) ∨ ((c == 10) = false ∧ (c == 34) = true ∧ Hid (esc1 c = [92, 34])) ∨
    ((c == 10) = false ∧ (c == 34) = false ∧ (c == 92) = true ∧ Hid (esc1 c = [92, 92])) ∨ ((c == 10) = false ∧ (c == 34) = false ∧ (c == 92) = false ∧ (c == 13) = true ∧ Hid (esc1 c = [92, 114])) ∨
    ((c == 10) = false ∧ (c == 34) = false ∧ (c == 92) = false ∧ (c == 13) = false ∧ (c == 9) = true ∧ Hid (esc1 c = [92, 116])) ∨
    ((c == 10) = false ∧ (c == 34) = false ∧ (c == 92) = false ∧ (c == 13) = false ∧ (c == 9) = false ∧ (c == 8) = true ∧ Hid (esc1 c = [92, 98])) ∨
    ((c == 10) = false ∧ (c == 34) = false ∧ (c == 92) = false ∧ (c == 13) = false ∧ (c == 9) = false ∧ (c == 8) = false ∧ (c == 12) = true ∧ Hid (esc1 c = [92, 102])) ∨
    ((c == 10) = false ∧ (c == 34) = false ∧ (c == 92) = false ∧ (c == 13) = false ∧ (c == 9) = false ∧ (c == 8) = false ∧ (c == 12) = false ∧ Hid (esc1 c = [c])) := by
  by_cases h1 : c = 10
  · left; subst h1; exact ⟨rfl, rfl⟩
  by_cases h2 : c = 34
  · right; left; subst h2; exact ⟨rfl, rfl, rfl⟩
  by_cases h3 : c = 92
  · right; right; left; subst h3; exact ⟨rfl, rfl, rfl, rfl⟩
  by_cases h4 : c = 13
  · right; right; right; left; subst h4; exact ⟨rfl, rfl, rfl, rfl, rfl⟩
  by_cases h5 : c = 9
  · right; right; right; right; left; subst h5; exact ⟨rfl, rfl, rfl, rfl, rfl, rfl⟩
  by_cases h6 : c = 8
  · right; right; right; right; right; left; subst h6; exact ⟨rfl, rfl, rfl, rfl, rfl, rfl, rfl⟩
  by_cases h7 : c = 12
  · right; right; right; right; right; right; left; subst h7; exact ⟨rfl, rfl, rfl, rfl, rfl, rfl, rfl, rfl⟩
  · right; right; right; right; right; right; right
    refine ⟨by simp [h1], by simp [h2], by simp [h3], by simp [h4], by simp [h5], by simp [h6], by simp [h7], ?_⟩
    show esc1 c = [c]
    simp [esc1, h1, h2, h3, h4, h5, h6, h7]

theorem own_mono {B B' : Nat} {w1 : World} {v : Value} {n : Nat} {xs : List Value} (hB : B' ≤ B) (h : w1.ownsRow B 5 1 v n xs) : w1.ownsRow B' 5 1 v n xs := by
  refine ⟨h.1, ?_⟩
  rcases h.2 with hn | ⟨g, cap, cur, hv, hbg, r⟩
  · exact .inl hn
  · exact .inr ⟨g, cap, cur, hv, by omega, r⟩

set_option maxHeartbeats 1000000 in
theorem app_any (ao : Option Addr) (n : Nat) (xs : List Int) (s : ByteArray) (w : World) (hnone : ao = none → n = 0) (hx : xs.length = n) (hn : n ≤ 1048576) (hs : s.size ≤ 1048576)
    (hc : ∀ b, ao = some b → ∀ j, j < n → w.cell? (b.add j) = some (.int .u8 (nth xs j))) :
    Calls Try.prog 10 #[.slice ao n n, .string s] w fun e w' => ∃ v, e = .returned v ∧ w'.ownsRow w.heap.size 5 1 v (xs ++ full (byt s)).length (cellsOf (xs ++ full (byt s))) ∧ Below w.heap.size w w' := by
  obtain ⟨i0, hi, hz0, hz1, hz2⟩ := info_parts info5
  go_enter Try.func10, Try.ntmps10
  have hacc0 : Hid (acc xs s 0 = xs ++ [34]) := acc_zero xs s
  go_wp2_with (at_builtin; refine wpList_append_grows _ rfl _ _ 22 rfl 5 i0 (.int .u8 0) 1 1 Try.underlying22 hi hz0 hz1 hz2 rfl (by decide) ao n n (cellsOf xs) rfl ?_ ?_ ?_ ⟨w.heap.size, 0, none⟩ 1 1 [.int .u8 34] rfl rfl ?_ ?_ ?_ ?_ ?_ ?_)
  · intro h; exact ⟨hnone h, hnone h⟩
  · rw [cellsOf_length, hx, Nat.mul_one]
  · intro b hb j u hu
    have hj : j < n := by
      have := (List.getElem?_eq_some_iff.1 hu).1
      rwa [cellsOf_length, hx] at this
    have h1 := hc b hb j hj
    rw [((Below.refl w.heap.size w).alloc (Nat.le_refl _) _).cell (World.block_lt_of_cell? w _ h1), h1, ← cellsOf_get xs j (by omega), hu]
  · exact cell_one_new _ _ _
  · intro u hu; simp at hu; subst hu; rfl
  · omega
  · unfold maxLen; omega
  · omega
  intro v1 w1 hown1 hgrow1
  have hb1 : Below w.heap.size w w1 := ((Below.refl _ _).alloc (Nat.le_refl _) _).grown hgrow1 (by simp) (fun k h => by cases h)
  have hown : w1.ownsRow w.heap.size 5 1 v1 (acc xs s 0).length (cellsOf (acc xs s 0)) := by
    rw [hacc0.out]
    exact own_step (M := [34]) (own_mono (by omega) hown1) hx rfl rfl
  clear hown1 hgrow1 hc hnone
  go_wp2
  go_outline
  go_loopw [0, 5] (fun v i wr => ∃ k : Nat, k ≤ s.size ∧ i = .int .i64 k ∧ wr.ownsRow w.heap.size 5 1 v (acc xs s k).length (cellsOf (acc xs s k)) ∧ Below w.heap.size w wr)
    (fun _ i _ => s.size - (intOf i).toNat)
  case atStart => exact ⟨0, Nat.zero_le _, rfl, hown, hb1⟩
  case round =>
    clear hown hb1
    obtain ⟨k, hk, rfl, hown, hb⟩ := hrel
    have hal := acc_length xs s k
    by_cases hlt : k < s.size
    · have HA : Hid (acc xs s (k + 1) = acc xs s k ++ esc1 (s[k].toNat : Int)) := acc_succ xs s k hlt
      have hsz := hb.size
      rcases cases8 (s[k].toNat : Int) with ⟨d1, he⟩ | ⟨d1, d2, he⟩ | ⟨d1, d2, d3, he⟩ | ⟨d1, d2, d3, d4, he⟩ | ⟨d1, d2, d3, d4, d5, he⟩ | ⟨d1, d2, d3, d4, d5, d6, he⟩ | ⟨d1, d2, d3, d4, d5, d6, d7, he⟩ | ⟨d1, d2, d3, d4, d5, d6, d7, he⟩
      · go_wp2_with (at_builtin; refine Lib.wpList_append_own_string _ rfl _ _ 22 9 rfl w.heap.size 5 i0 Try.underlying22 Try.underlying9 hi hz0 hz1 hz2 _ _ _ rfl hown _ rfl (bd1 rfl (by omega)) (bd2 rfl (by omega)) hsz ?_; intro v2 w2 hown2 hgrow2 _)
        go_roundw
        case rel => exact ⟨k + 1, by omega, by go_num, by rw [HA.out]; exact own_step hown2 rfl (by rw [he.out]; rfl) (by rw [he.out]; rfl), hb.grown hgrow2 hsz (fun g hg => (hown.lt g hg).1)⟩
        case measure => simp [intOf]; omega
      · go_wp2_with (at_builtin; refine Lib.wpList_append_own_string _ rfl _ _ 22 9 rfl w.heap.size 5 i0 Try.underlying22 Try.underlying9 hi hz0 hz1 hz2 _ _ _ rfl hown _ rfl (bd1 rfl (by omega)) (bd2 rfl (by omega)) hsz ?_; intro v2 w2 hown2 hgrow2 _)
        go_roundw
        case rel => exact ⟨k + 1, by omega, by go_num, by rw [HA.out]; exact own_step hown2 rfl (by rw [he.out]; rfl) (by rw [he.out]; rfl), hb.grown hgrow2 hsz (fun g hg => (hown.lt g hg).1)⟩
        case measure => simp [intOf]; omega
      · go_wp2_with (at_builtin; refine Lib.wpList_append_own_string _ rfl _ _ 22 9 rfl w.heap.size 5 i0 Try.underlying22 Try.underlying9 hi hz0 hz1 hz2 _ _ _ rfl hown _ rfl (bd1 rfl (by omega)) (bd2 rfl (by omega)) hsz ?_; intro v2 w2 hown2 hgrow2 _)
        go_roundw
        case rel => exact ⟨k + 1, by omega, by go_num, by rw [HA.out]; exact own_step hown2 rfl (by rw [he.out]; rfl) (by rw [he.out]; rfl), hb.grown hgrow2 hsz (fun g hg => (hown.lt g hg).1)⟩
        case measure => simp [intOf]; omega
      · go_wp2_with (at_builtin; refine Lib.wpList_append_own_string _ rfl _ _ 22 9 rfl w.heap.size 5 i0 Try.underlying22 Try.underlying9 hi hz0 hz1 hz2 _ _ _ rfl hown _ rfl (bd1 rfl (by omega)) (bd2 rfl (by omega)) hsz ?_; intro v2 w2 hown2 hgrow2 _)
        go_roundw
        case rel => exact ⟨k + 1, by omega, by go_num, by rw [HA.out]; exact own_step hown2 rfl (by rw [he.out]; rfl) (by rw [he.out]; rfl), hb.grown hgrow2 hsz (fun g hg => (hown.lt g hg).1)⟩
        case measure => simp [intOf]; omega
      · go_wp2_with (at_builtin; refine Lib.wpList_append_own_string _ rfl _ _ 22 9 rfl w.heap.size 5 i0 Try.underlying22 Try.underlying9 hi hz0 hz1 hz2 _ _ _ rfl hown _ rfl (bd1 rfl (by omega)) (bd2 rfl (by omega)) hsz ?_; intro v2 w2 hown2 hgrow2 _)
        go_roundw
        case rel => exact ⟨k + 1, by omega, by go_num, by rw [HA.out]; exact own_step hown2 rfl (by rw [he.out]; rfl) (by rw [he.out]; rfl), hb.grown hgrow2 hsz (fun g hg => (hown.lt g hg).1)⟩
        case measure => simp [intOf]; omega
      · go_wp2_with (at_builtin; refine Lib.wpList_append_own_string _ rfl _ _ 22 9 rfl w.heap.size 5 i0 Try.underlying22 Try.underlying9 hi hz0 hz1 hz2 _ _ _ rfl hown _ rfl (bd1 rfl (by omega)) (bd2 rfl (by omega)) hsz ?_; intro v2 w2 hown2 hgrow2 _)
        go_roundw
        case rel => exact ⟨k + 1, by omega, by go_num, by rw [HA.out]; exact own_step hown2 rfl (by rw [he.out]; rfl) (by rw [he.out]; rfl), hb.grown hgrow2 hsz (fun g hg => (hown.lt g hg).1)⟩
        case measure => simp [intOf]; omega
      · go_wp2_with (at_builtin; refine Lib.wpList_append_own_string _ rfl _ _ 22 9 rfl w.heap.size 5 i0 Try.underlying22 Try.underlying9 hi hz0 hz1 hz2 _ _ _ rfl hown _ rfl (bd1 rfl (by omega)) (bd2 rfl (by omega)) hsz ?_; intro v2 w2 hown2 hgrow2 _)
        go_roundw
        case rel => exact ⟨k + 1, by omega, by go_num, by rw [HA.out]; exact own_step hown2 rfl (by rw [he.out]; rfl) (by rw [he.out]; rfl), hb.grown hgrow2 hsz (fun g hg => (hown.lt g hg).1)⟩
        case measure => simp [intOf]; omega
      · go_wp2_with (at_builtin; refine wpList_append_own _ rfl _ _ 22 rfl w.heap.size 5 i0 (.int .u8 0) 1 1 Try.underlying22 hi hz0 hz1 hz2 rfl (by decide) _ _ _ rfl (hown.alloc _) ⟨wr.heap.size, 0, none⟩ 1 1 [.int .u8 (s[k].toNat : Int)] rfl rfl (cell_one_new _ _ _) (one_ok _) (by unfold maxLen; omega) (by omega) (by simp; omega) ?_; intro v2 w2 hown2 hgrow2 _)
        go_roundw
        case rel => exact ⟨k + 1, by omega, by go_num, by rw [HA.out]; exact own_step hown2 rfl (by rw [he.out]; rfl) (by rw [he.out]; rfl), (hb.alloc hsz _).grown hgrow2 (by simp; omega) (fun g hg => (hown.lt g hg).1)⟩
        case measure => simp [intOf]; omega
    · have ek : k = s.size := by omega
      have HE : Hid (acc xs s s.size ++ [34] = xs ++ full (byt s)) := acc_end xs s
      have hsz := hb.size
      go_wp2_with (at_builtin; refine wpList_append_own _ rfl _ _ 22 rfl w.heap.size 5 i0 (.int .u8 0) 1 1 Try.underlying22 hi hz0 hz1 hz2 rfl (by decide) _ _ _ rfl (hown.alloc _) ⟨wr.heap.size, 0, none⟩ 1 1 [.int .u8 34] rfl rfl (cell_one_new _ _ _) (one_ok _) (by unfold maxLen; omega) (by omega) (by simp; omega) ?_; intro v2 w2 hown2 hgrow2 _)
      go_ret
      subst ek
      refine ⟨v2, rfl, ?_, (hb.alloc hsz _).grown hgrow2 (by simp; omega) (fun g hg => (hown.lt g hg).1)⟩
      rw [← HE.out]
      exact own_step hown2 rfl rfl rfl

/-- What an owned row of at least one byte is. -/
theorem own_out {B : Nat} {w : World} {v : Value} {L : List Int} (h : w.ownsRow B 5 1 v L.length (cellsOf L)) (hL : 0 < L.length) :
    ∃ g cap, v = .slice (some ⟨g, 0, none⟩) L.length cap ∧ B ≤ g ∧ g < w.heap.size ∧ ∀ j, j < L.length → w.cell? ⟨g, j, none⟩ = some (.int .u8 (nth L j)) := by
  rcases h.2 with ⟨_, h0⟩ | ⟨g, cap, cur, rfl, hb, hg, hn, _, hs, ht⟩
  · omega
  · refine ⟨g, cap, rfl, hb, (Array.getElem?_eq_some_iff.1 hg).1, fun j hj => ?_⟩
    have := h.cells (g := g) rfl j _ (cellsOf_get L j hj)
    rwa [Addr.add_lit, Nat.zero_add] at this

theorem full_pos (xs l : List Int) : 0 < (xs ++ full l).length := by simp [full]; omega

/-- The shim: s behind xs, encoded, in a new row; nothing that was there has turned. -/
theorem zz_app (ao : Option Addr) (n : Nat) (xs : List Int) (s : ByteArray) (w : World) (L : List Int) (N : Nat) (HL : Hid (L = xs ++ full (byt s))) (HN : Hid (L.length = N))
    (hnone : ao = none → n = 0) (hx : xs.length = n) (hn : n ≤ 1048576) (hs : s.size ≤ 1048576)
    (hc : ∀ b, ao = some b → ∀ j, j < n → w.cell? (b.add j) = some (.int .u8 (nth xs j))) :
    Calls Try.prog 7 #[.slice ao n n, .string s] w fun e w' => ∃ g cap, e = .returned (.slice (some ⟨g, 0, none⟩) N cap) ∧ w.heap.size ≤ g ∧ g < w'.heap.size ∧
      (∀ j, j < N → w'.cell? ⟨g, j, none⟩ = some (.int .u8 (nth L j))) ∧ Below w.heap.size w w' := by
  go_enter Try.func7, Try.ntmps7
  go_wp2_with fail
  refine (app_any ao n xs s _ hnone hx hn hs hc).mono ?_
  rintro e w' ⟨v, rfl, hown, hb⟩
  rw [← HL.out] at hown
  obtain ⟨g, cap, hv, h1, h2, h3⟩ := own_out hown (by rw [HL.out]; exact full_pos _ _)
  rw [HN.out] at hv h3
  rw [hv]
  clear hown hc
  go_wp2
  go_ret
  exact ⟨g, cap, rfl, h1, h2, h3, hb⟩
end Go.Proofs.Qxb6600981a
