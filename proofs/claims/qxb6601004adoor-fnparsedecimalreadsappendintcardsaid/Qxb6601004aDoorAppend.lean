/-
  The walk of 'bencode.AppendInt' (function 5) onto nil, with strconv.AppendInt taken by the shelf's contract. Ours.
-/
import Derived.Test.Qxb6601004aDoorShelf
import Derived.Test.Qxb6601004aDoorNum
import Derived.Lib.ItoaLen
import Derived.WalkKit
import Derived.WalkSpells
namespace Go.Proofs.Qxb6601004aDoor
open Go.RowKit
set_option linter.unusedVariables false

theorem info5 : (Tryd.prog.info? 5).map (fun i => (i.zero, i.size, i.bytes)) = some (some (.int .u8 0), 1, 1) := by kernel_rfl
/-- Numbers as cells of bytes. -/
def cellsOf (L : List Int) : List Value := L.map (Value.int .u8)
theorem cellsOf_append (L M : List Int) : cellsOf (L ++ M) = cellsOf L ++ cellsOf M := by simp [cellsOf]
theorem cellsOf_length (L : List Int) : (cellsOf L).length = L.length := by simp [cellsOf]
theorem cellsOf_get (L : List Int) (j : Nat) (h : j < L.length) : (cellsOf L)[j]? = some (.int .u8 (nth L j)) := by
  simp [cellsOf, nth, List.getD, h]
theorem byteCells_eq (l : List UInt8) : Lib.byteCells l = cellsOf (nums l) := by
  simp [Lib.byteCells, cellsOf, nums]
theorem one_ok (c : Int) : ∀ u ∈ [Value.int .u8 c], u.oneCell' = true := by
  intro u hu
  simp at hu
  subst hu
  rfl

/-- The table that strconv reads, by the name that the row itself bears. -/
def Tab (w : World) : Prop := Lib.TabIs Tryd.prog w (Rows.fnAppendIntCanonicalRow.named.headD default) .u64 Lib.pow10Tab

theorem nth_left (A B : List Int) (i : Nat) (h : i < A.length) : nth (A ++ B) i = nth A i := by
  simp [nth, List.getD, List.getElem?_append_left h]
theorem nth_right (A B : List Int) (i : Nat) : nth (A ++ B) (A.length + i) = nth B i := by
  unfold nth List.getD
  rw [List.getElem?_append_right (by omega), Nat.add_sub_cancel_left]

set_option maxHeartbeats 1000000 in
set_option maxRecDepth 100000 in
theorem ai_own (i : Int) (h0 : -9223372036854775808 ≤ i) (h1 : i ≤ 9223372036854775807) (w : World) (htab : Tab w) (L : List Int) (HL : Hid (L = 105 :: (txt i ++ [101]))) :
    Calls Tryd.prog 5 #[.slice none 0 0, .int .i64 i] w fun e w' => ∃ v, e = .returned v ∧ w'.ownsRow w.heap.size 5 1 v L.length (cellsOf L) ∧ Below w.heap.size w w' := by
  obtain ⟨i0, hi, hz0, hz1, hz2⟩ := info_parts info5
  have hT : Hid (Lib.TabBelow Tryd.prog w.heap.size w (Rows.fnAppendIntCanonicalRow.named.headD default) .u64 Lib.pow10Tab) := Lib.tabBelow_of_tabIs htab
  clear htab
  have hlen := Lib.itoa_length_le i h0 h1
  go_enter Tryd.func5, Tryd.ntmps5
  go_wp2_with (at_builtin; refine wpList_append_own _ rfl _ _ 22 rfl w.heap.size 5 i0 (.int .u8 0) 1 1 Tryd.underlying22 hi hz0 hz1 hz2 rfl (by decide) _ _ _ rfl (World.ownsRow_nil _ _ _ _) ⟨w.heap.size, 0, none⟩ 1 1 [.int .u8 105] rfl rfl (cell_one_new _ _ _) (one_ok _) (by unfold maxLen; omega) (by omega) (by simp) ?_; intro v1 w1 hown1 hgrow1 _)
  have hb1 : Below w.heap.size w w1 := ((Below.refl _ _).alloc (Nat.le_refl _) _).grown hgrow1 (by simp) (fun k h => by cases h)
  refine (strconv_AppendInt_10 w.heap.size (0 + 1) i h0 h1 v1 ([] ++ [.int .u8 105]) w1 hown1 hb1.size (by omega) (hT.out.on hb1)).mono ?_
  rintro e w2 ⟨v2, rfl, hown2, hb2, -⟩
  clear hown1 hgrow1
  have hz := hb1.size
  have hy := hb2.size
  go_wp2_with (at_builtin; refine wpList_append_own _ rfl _ _ 22 rfl w.heap.size 5 i0 (.int .u8 0) 1 1 Tryd.underlying22 hi hz0 hz1 hz2 rfl (by decide) _ _ _ rfl (hown2.alloc _) ⟨w2.heap.size, 0, none⟩ 1 1 [.int .u8 101] rfl rfl (cell_one_new _ _ _) (one_ok _) (by unfold maxLen; omega) (by omega) (by simp; omega) ?_; intro v3 w3 hown3 hgrow3 _)
  go_ret
  refine ⟨v3, rfl, ?_, ((hb1.trans hb2).alloc (by omega) _).grown hgrow3 (by simp; omega) (fun k hk => (hown2.lt k hk).1)⟩
  rw [HL.out]
  have e1 : cellsOf (105 :: (txt i ++ [101])) = [] ++ [Value.int .u8 105] ++ Lib.byteCells (Lib.itoa i) ++ [Value.int .u8 101] := by
    rw [byteCells_eq]
    simp [cellsOf, txt]
  have e2 : (105 :: (txt i ++ [101])).length = 0 + 1 + (Lib.itoa i).length + 1 := by
    simp [txt, nums]
    omega
  rw [e1, e2]
  exact hown3

/-- What bencode.AppendInt(nil, i) gives: an 'i', the numeral of i, an 'e', in a new row; nothing that was there has turned. -/
theorem ai_any (i : Int) (h0 : -9223372036854775808 ≤ i) (h1 : i ≤ 9223372036854775807) (w : World) (htab : Tab w) (m : Nat) (hm : Hid ((txt i).length = m)) :
    Calls Tryd.prog 5 #[.slice none 0 0, .int .i64 i] w fun e w' => ∃ g cap, e = .returned (.slice (some ⟨g, 0, none⟩) (m + 2) cap) ∧ m + 2 ≤ cap ∧ cap ≤ 9223372036854775807 ∧
      w'.cell? ⟨g, 0, none⟩ = some (.int .u8 105) ∧ (∀ j, j < m → w'.cell? ⟨g, 1 + j, none⟩ = some (.int .u8 (nth (txt i) j))) ∧ w'.cell? ⟨g, m + 1, none⟩ = some (.int .u8 101) ∧ Below w.heap.size w w' := by
  refine (ai_own i h0 h1 w htab _ rfl).mono ?_
  rintro e w' ⟨v, rfl, hown, hb⟩
  have hl : (105 :: (txt i ++ [101])).length = m + 2 := by
    simp only [List.length_cons, List.length_append, List.length_nil, hm.out]
  rcases hown.2 with ⟨_, h⟩ | ⟨g, cap, cur, rfl, _, hg, hn, hcm, _, _⟩
  · omega
  · have hcell : ∀ j, j < m + 2 → w'.cell? ⟨g, j, none⟩ = some (.int .u8 (nth (105 :: (txt i ++ [101])) j)) := fun j hj => by
      have := hown.cells (g := g) rfl j _ (cellsOf_get _ j (by omega))
      rwa [Addr.add_lit, Nat.zero_add] at this
    rw [hl] at hn
    refine ⟨g, cap, by rw [hl], hn, by unfold maxLen at hcm; omega, hcell 0 (by omega), fun j hj => ?_, ?_, hb⟩
    · rw [hcell (1 + j) (by omega)]
      have := nth_right [105] (txt i ++ [101]) j
      rw [nth_left _ _ j (by rw [hm.out]; exact hj)] at this
      exact congrArg (fun z => some (Value.int .u8 z)) this
    · rw [hcell (m + 1) (by omega)]
      have := nth_right (105 :: txt i) [101] 0
      rw [List.length_cons, hm.out, Nat.add_zero] at this
      exact congrArg (fun z => some (Value.int .u8 z)) this
end Go.Proofs.Qxb6601004aDoor
