/-
  The walks of 'cloneBytes_bencode_b1' (function 6) and of the bound 'zzBytes_..' (function 5). Ours.
-/
import Derived.Test.Qxb6601004aRows
import Derived.WalkKit
import Derived.WalkSpells
import Derived.Laws.CopyOwn
import Derived.Test.Qxb6601004aPlain
namespace Go.Proofs.Qxb6601004a
open Go.RowKit
set_option linter.unusedVariables false

theorem info5 : (Try.prog.info? 5).map (fun i => (i.zero, i.size, i.bytes)) = some (some (.int .u8 0), 1, 1) := by kernel_rfl
theorem size5 : (Try.prog.info? 5).map (·.size) = some 1 := by kernel_rfl

/-- Numbers as cells of bytes. -/
def cellsOf (L : List Int) : List Value := L.map (Value.int .u8)

theorem cellsOf_length (L : List Int) : (cellsOf L).length = L.length := by simp [cellsOf]
theorem cellsOf_append (L M : List Int) : cellsOf (L ++ M) = cellsOf L ++ cellsOf M := by simp [cellsOf]
theorem cellsOf_get (L : List Int) (j : Nat) (h : j < L.length) : (cellsOf L)[j]? = some (.int .u8 (nth L j)) := by
  simp [cellsOf, nth, List.getD, h]
theorem cellsOf_at (L : List Int) (R : List Value) (j : Nat) (h : j < L.length) : (cellsOf L ++ R).toArray[j]? = some (.int .u8 (nth L j)) := by
  rw [List.getElem?_toArray, List.getElem?_append_left (by rw [cellsOf_length]; exact h)]
  exact cellsOf_get L j h
theorem cellsOf_one (L : List Int) : ∀ v ∈ cellsOf L, v.oneCell' = true := by
  intro v hv
  simp only [cellsOf, List.mem_map] at hv
  obtain ⟨_, _, rfl⟩ := hv
  rfl

theorem clone_nil (w : World) : Calls Try.prog 6 #[.slice none 0 0] w fun e w' => e = .returned (.slice none 0 0) ∧ w' = w := by
  have kn := Lib.run_eql_slice_nil (P := Try.prog) w 22 5 none 0 0 0 0 Try.underlying22
  go_enter Try.func6, Try.ntmps6
  go_wp2
  go_ret
  exact ⟨rfl, rfl⟩

set_option maxHeartbeats 400000 in
theorem clone_some (x : Addr) (len cap : Nat) (L : List Int) (w : World) (hL : L.length = len) (hc : ∀ j, j < len → w.cell? (x.add j) = some (.int .u8 (nth L j))) (hlen : len ≤ 1048576) :
    Calls Try.prog 6 #[.slice (some x) len cap] w fun e w' => e = .returned (.slice (some ⟨w.heap.size, 0, none⟩) len len) ∧ w.heap.size < w'.heap.size ∧
      (∀ j, j < len → w'.cell? ⟨w.heap.size, j, none⟩ = some (.int .u8 (nth L j))) ∧ Below w.heap.size w w' := by
  have kn := Lib.run_eql_slice_nil (P := Try.prog) w 22 5 (some x) len cap 0 0 Try.underlying22
  obtain ⟨i0, hi, hz0, hz1, hz2⟩ := info_parts info5
  go_enter Try.func6, Try.ntmps6
  go_wp2_with (at_make; refine wpList_make_full _ rfl _ _ 22 rfl w.heap.size 5 i0 (.int .u8 0) 1 Try.underlying22 hi hz0 hz1 _ _ _ _ len rfl rfl rfl rfl (by rw [hz2]; omega) (by unfold maxLen; omega) (Nat.le_refl _) ?_; intro w1 hown hgrow)
  obtain ⟨cur, hg, hcs⟩ : ∃ cur, w1.heap[w.heap.size]? = some (.cells cur 5 (0, 0)) ∧ cur.size = len := by
    rcases hown.2 with ⟨h, _⟩ | ⟨g, c, cur, hv, _, hg, _, _, hcs, _⟩
    · cases h
    · simp only [Value.slice.injEq, Option.some.injEq, Addr.mk.injEq] at hv
      obtain ⟨⟨rfl, _⟩, _, rfl⟩ := hv
      exact ⟨cur, hg, by simpa using hcs⟩
  have hsrc : ∀ j v, (cellsOf L)[j]? = some v → w1.cell? (x.add j) = some v := by
    intro j v hv
    have hj : j < len := by
      have := (List.getElem?_eq_some_iff.1 hv).1
      simpa [cellsOf, hL] using this
    have hb : Below w.heap.size w w1 := (Below.refl _ _).grown hgrow (Nat.le_refl _) (fun k h => by cases h)
    rw [hb.cell (World.block_lt_of_cell? w _ (hc j hj)), hc j hj]
    rw [← hv, cellsOf_get L j (by omega)]
  have hlc : (cellsOf L).length = len := by simpa [cellsOf] using hL
  rw [run_copy_row (P := Try.prog) w1 22 22 3 5 w.heap.size 0 len len x len cap cur 5 (cellsOf L) Try.underlying22 size5 hg (by rw [hlc]; simp) hsrc (by omega) (cellsOf_one L)]
  go_wp2
  go_ret
  have hg2 := setRow_heap w1 w.heap.size cur (cellsOf L ++ List.drop len cur.toList).toArray 5 (0, 0) hg
  refine ⟨rfl, (Array.getElem?_eq_some_iff.1 hg2).1, fun j hj => ?_, below_setRow ((Below.refl _ _).grown hgrow (Nat.le_refl _) (fun k h => by cases h)) (Nat.le_refl _) _⟩
  rw [cell_of_row _ _ _ _ _ _ hg2]
  exact cellsOf_at L _ j (by omega)

theorem zz5_true (a : Option Addr) (len cap : Nat) (w : World) (h : len ≤ 1048576) :
    Calls Try.prog 5 #[.slice a len cap] w fun e w' => e = .returned (.bool true) ∧ w' = w := by
  go_enter Try.func5, Try.ntmps5
  go_wp2
  go_ret
  exact ⟨rfl, rfl⟩
theorem zz5_false (a : Option Addr) (len cap : Nat) (w : World) (h : 1048576 < len) (h0 : len ≤ 9223372036854775807) :
    Calls Try.prog 5 #[.slice a len cap] w fun e w' => e = .returned (.bool false) ∧ w' = w := by
  go_enter Try.func5, Try.ntmps5
  go_wp2
  go_ret
  exact ⟨rfl, rfl⟩
end Go.Proofs.Qxb6601004a
