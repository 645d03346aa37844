/-
  The proof of Rows.FnAppendStringConcatenatesAndIgnoresPrefixSaid. The frame is the shell that was given for this law; the walk is ours.
-/
import Derived.Test.Qxb6600981aRows
import Derived.Test.Qxb6600981aConcat
import Derived.WalkKit
import Derived.ProofKit
import Derived.OpenShut
import Derived.ShutString
import Derived.ChangeOld
import Derived.Below
namespace Go.Proofs.Qxb6600981a.fnAppendStringConcatenatesAndIgnoresPrefix
open Go.ChangeShapes Go.WideShapes Go.ChangeAt Go.RowKit
open Go.ChangeMaps (open_string shut_string)
set_option linter.unusedVariables false

theorem own : ownKnob Try.prog.godebug = none := by kernel_rfl
theorem laidOut : laidOutB Try.prog = true := by kernel_rfl

/-- WHAT THE WALK IS TOLD OF A SLICE OF INTEGERS THAT CAME IN: it is nil; or it leads to a row of 'cap' cells, the numbers 'zs' (the first 'len' are its elements, the rest its spare room), each fitting its kind. -/
def IsRow (k : IntKind) (w : World) (a : Option Addr) (len cap : Nat) (zs : List Int) : Prop :=
  (a = none ∧ len = 0 ∧ cap = 0 ∧ zs = []) ∨
  ∃ x, a = some x ∧ len ≤ cap ∧ cap ≤ maxLen ∧ zs.length = cap ∧ (∀ i, i < zs.length → w.cell? (x.add i) = some (.int k (zs.getD i 0))) ∧ ∀ n ∈ zs, (Lit.int k n).wf = true

/-! ### The plain law: no Go in sight -/
theorem nth_left (A B : List Int) (i : Nat) (h : i < A.length) : nth (A ++ B) i = nth A i := by
  simp [nth, List.getD, List.getElem?_append_left h]
theorem nth_right (A B : List Int) (i : Nat) : nth (A ++ B) (A.length + i) = nth B i := by
  unfold nth List.getD
  rw [List.getElem?_append_right (by omega), Nat.add_sub_cancel_left]
theorem nth_take (z : List Int) (n j : Nat) (h : j < n) : nth (z.take n) j = nth z j := by
  simp [nth, List.getD, h]
/-- The encoding of a text in two parts, against the encodings of the parts. -/
theorem whole_facts (a b : List Int) :
    (∀ i, i < ([] ++ full a).length - 1 → nth ([] ++ full (a ++ b)) i = nth ([] ++ full a) i) ∧
    (∀ j, 1 ≤ j → j < ([] ++ full b).length → nth ([] ++ full (a ++ b)) (([] ++ full a).length - 1 + j - 1) = nth ([] ++ full b) j) := by
  have eW : full (a ++ b) = (34 :: enc a) ++ (enc b ++ [34]) := by simp [full, enc_append]
  have e1 : full a = (34 :: enc a) ++ [34] := by simp [full]
  have e2 : full b = [34] ++ (enc b ++ [34]) := by simp [full]
  have hl : (full a).length - 1 = (34 :: enc a).length := by rw [e1, List.length_append]; simp
  simp only [List.nil_append]
  refine ⟨fun i hi => ?_, fun j hj _ => ?_⟩
  · rw [hl] at hi
    rw [eW, e1, nth_left _ _ i hi, nth_left _ _ i hi]
  · obtain ⟨j, rfl⟩ : ∃ q, j = 1 + q := ⟨j - 1, by omega⟩
    rw [hl, eW, show (34 :: enc a).length + (1 + j) - 1 = (34 :: enc a).length + j by omega, nth_right, e2]
    exact (nth_right [34] _ j).symm

/-! ### STEP 1: THE WALK: the Go text returns true, AND WRITES NOTHING THAT WAS THERE: 'Below w.heap.size w w'' (Derived/Below.lean: '.refl', '.alloc', '.drew', '.setCell' at a new block, '.trans'). Open each 'IsRow' by 'rcases' AHEAD of 'go_enter'; part every test ahead of the walk. -/
theorem walk (a0 : Option Addr) (len0 cap0 : Nat) (z0 : List Int) (a1 : ByteArray) (a2 : ByteArray) (w : World) (w0 : IsRow .u8 w a0 len0 cap0 z0) (w1 : a1.size ≤ maxLen) (w2 : a2.size ≤ maxLen) :
    Calls Try.prog 4 #[.slice a0 len0 cap0, .string a1, .string a2] w fun e w' => e = .returned (.bool true) ∧ Below w.heap.size w w' := by
  unfold maxLen at w1 w2
  have hlc : len0 ≤ 9223372036854775807 := by
    rcases w0 with ⟨_, h, _⟩ | ⟨_, _, h1, h2, _⟩
    · omega
    · unfold maxLen at h2; omega
  by_cases hsum : len0 + a1.size + a2.size ≤ 1048576
  · have hw := whole_facts (byt a1) (byt a2)
    have hbe := byt_append a1 a2
    have h1 := enc_length (byt a1)
    have h2 := enc_length (byt a2)
    have h3 := byt_length a1
    have h4 := byt_length a2
    rcases w0 with ⟨rfl, rfl, rfl, rfl⟩ | ⟨x, rfl, hl, hm, hz, hcell, _⟩
    · refine concat_nil a1 a2 w (by omega) _ _ _ _ _ _ _ _ (rfl : _ = _) (rfl : _ = _) (rfl : _ = _) (rfl : _ = _) (rfl : _ = _) (rfl : _ = _) (rfl : _ = _) (rfl : _ = _) ?_ ?_ ?_ ?_ ?_ ?_ ?_ ?_ ?_ ?_
      · simp [full]
      · simp [full]
      · rw [hbe]; simp [full, enc_append]; omega
      · rw [hbe]; simp [full, enc_append]; omega
      · simp
      · simp
      · rw [hbe]; simp [full, enc_append]; omega
      · rw [hbe]; exact hw.1
      · rw [hbe]; exact hw.2
      · exact fun j _ => rfl
    · have hx : (z0.take len0).length = len0 := by rw [List.length_take]; omega
      refine concat_some x len0 cap0 (z0.take len0) a1 a2 w hx ?_ hsum _ _ _ _ _ _ _ _ (rfl : _ = _) (rfl : _ = _) (rfl : _ = _) (rfl : _ = _) (rfl : _ = _) (rfl : _ = _) (rfl : _ = _) (rfl : _ = _) ?_ ?_ ?_ ?_ ?_ ?_ ?_ ?_ ?_ ?_ ?_
      · intro j hj
        rw [hcell j (by omega), nth_take _ _ _ hj]
        rfl
      · simp [full]
      · simp [full]
      · rw [hbe]; simp [full, enc_append]; omega
      · rw [hbe]; simp [full, enc_append]; omega
      · simp only [List.length_append, hx, List.length_nil]; omega
      · simp only [List.length_append, hx, List.length_nil]; omega
      · rw [hbe]; simp [full, enc_append]; omega
      · rw [hbe]; exact hw.1
      · rw [hbe]; exact hw.2
      · intro i hi
        exact nth_left _ _ i (by omega)
      · intro j hj
        have := nth_right (z0.take len0) (full (byt (a1 ++ a2))) j
        rw [hx] at this
        exact this
  · have hsum' : 1048576 < len0 + a1.size + a2.size := by omega
    go_enter Try.func4, Try.ntmps4
    go_wp2_with fail
    refine (zz9_false a0 len0 cap0 a1 a2 _ hsum' hlc w1 w2).mono ?_
    rintro e w' ⟨rfl, rfl⟩
    go_wp2
    go_ret
    exact ⟨rfl, Below.refl _ _⟩

/-! ### THE ROW's STEP: WRITTEN OUT: LEAVE IT -/
set_option maxRecDepth 100000 in
theorem lifted (os : Os) (started : os.Started) (H : Type) (enc : TypeId × Value → H) :
    ReturnsInHanded {} Try.checked os 4 .any (Rows.fnAppendStringConcatenatesAndIgnoresPrefixSpec.pre6 enc Try.prog Try.f4 Rows.fnAppendStringConcatenatesAndIgnoresPrefixRow.domain false) (Rows.fnAppendStringConcatenatesAndIgnoresPrefixSpec.post enc Try.prog Try.f4 false true false false) := by
  refine returnsInHanded_of_change (C := Try.checked) own started (by kernel_rfl) Try.func4
    (ChangeSpec.witness6 (enc := enc) (C := Try.checked) false ⟨#[], #[.slice none 0 0, .string ByteArray.empty, .string ByteArray.empty], []⟩ 8 (by kernel_rfl) (by kernel_rfl) (by kernel_rfl) (by kernel_rfl)) ?_
  intro W base args ds gs before hval0 hW hcnd _
  have hval : ∀ (j : Nat) t v, Try.f4.params[j]? = some t → args[j]? = some v → Value.okWide Try.prog W .any base t v := hval0
  have hW' := hW
  obtain ⟨p, q, hA0, hV, rfl, hfz, hnd⟩ := hW
  have hA : DataW.TrodAll enc Try.prog W 0 (fun _ => true) true Try.f4.params.toList args.toList ds p := hA0
  rw [Try.params4] at hA hval
  obtain ⟨v0, vs0, d0, ds0, p0, q0, hargs, rfl, rfl, h0, r0⟩ := trodAll_cons hA
  obtain ⟨v1, vs1, d1, ds1, p1, q1, rfl, rfl, rfl, h1, r1⟩ := trodAll_cons r0
  obtain ⟨v2, vs2, d2, ds2, p2, q2, rfl, rfl, rfl, h2, r2⟩ := trodAll_cons r1
  obtain ⟨rfl, rfl, rfl⟩ := trodAll_nil r2
  obtain rfl : args = #[v0, v1, v2] := by cases args; simp_all
  obtain ⟨rfl, rfl⟩ := trodVars_none hV
  obtain ⟨a0, len0, cap0, rfl⟩ := okWide_slice Try.underlying22 (hval 0 22 v0 rfl rfl)
  have k0 := h0
  have lt0 : ∀ x ∈ p0, x.block < W.heap.size := by obtain ⟨m, hm⟩ := k0; exact DataW.trod_lt m _ _ _ hm
  obtain ⟨z0, w0⟩ : ∃ zs, IsRow .u8 W a0 len0 cap0 zs := by
    obtain ⟨fuel, hf⟩ := h0
    rcases open_ints Try.underlying22 Try.underlying5 (by kernel_rfl) hf with ⟨hcs, _⟩ | ⟨x, l, c, zs, hcs, _, hl, hm, hz, _, hcell, hwz⟩
    · simp [Value.cells] at hcs
      obtain ⟨rfl, rfl, rfl⟩ := hcs
      exact ⟨[], .inl ⟨rfl, rfl, rfl, rfl⟩⟩
    · simp [Value.cells] at hcs
      obtain ⟨rfl, rfl, rfl⟩ := hcs
      exact ⟨zs, .inr ⟨_, rfl, hl, hm, by simpa using hz, hcell, hwz⟩⟩
  obtain ⟨a1, rfl, rfl, rfl, w1⟩ := open_string Try.underlying9 (hval 1 9 v1 rfl rfl) h1
  obtain ⟨a2, rfl, rfl, rfl, w2⟩ := open_string Try.underlying9 (hval 2 9 v2 rfl rfl) h2
  clear hA0 hval0
  refine (walk a0 len0 cap0 z0 a1 a2 W w0 w1 w2).mono fun e W' ⟨he, bel⟩ => ?_
  subst he
  exact ⟨_, rfl, _, _, _, [], _, [], hW', trodAll_mk1 (shut_bool Try.underlying4 _), (trodAll_cons_mk (Below.trod laidOut (by kernel_rfl) (of_decide_eq_true (by kernel_rfl)) k0 bel lt0) (trodAll_cons_mk (shut_string Try.underlying9 w1) (trodAll_cons_mk (shut_string Try.underlying9 w2) trodAll_mk0))), rfl, bel.frame _, fun h => by cases h⟩

theorem over : Rows.fnAppendStringConcatenatesAndIgnoresPrefixRow.holds Try.pinned (OpenSpec.ofChange Rows.fnAppendStringConcatenatesAndIgnoresPrefixSpec) :=
  OpenClaim.holds_of_wide 4 Try.f4 rfl rfl rfl rfl rfl rfl rfl ⟨rfl, rfl, rfl, rfl, rfl⟩ rfl rfl rfl rfl rfl (by kernel_rfl) Try.func4 (by kernel_rfl)
    (of_decide_eq_true (by kernel_rfl)) (by unfold Func.isWrapper; first | (rw [if_pos (by decide +kernel)]; kernel_rfl) | (rw [if_neg (by decide +kernel)]; exact ⟨rfl, rfl⟩))
    (fun os started H enc _ => lifted os started H enc)

/-- ████ THE STATEMENT ████ -/
theorem proved : Rows.FnAppendStringConcatenatesAndIgnoresPrefixSaid := over
#print axioms proved
end Go.Proofs.Qxb6600981a.fnAppendStringConcatenatesAndIgnoresPrefix
