import Derived.Test.Qxb6608652aDoorPlain2
namespace Go.Proofs.Qxb6608652aDoor
set_option linter.unusedVariables false
set_option linter.unusedSimpArgs false

/-- THE AUTOMATON's ANSWER over the whole text. -/
def total (xs : List Int) : List (Nat × Nat × Nat × Nat) × Bool := run xs 0 0 false false 0 0 0 0 []
/-- The bounds of every field are in order. -/
def Good (n : Nat) (F : List (Nat × Nat × Nat × Nat)) : Prop := ∀ t ∈ F, t.1 < t.2.1 ∧ t.2.1 ≤ t.2.2.1 ∧ t.2.2.1 < t.2.2.2 ∧ t.2.2.2 ≤ n

/-- At place i in state st, the fields F gathered. -/
def AtSt (xs : List Int) (i st : Nat) (F : List (Nat × Nat × Nat × Nat)) : Prop := ∃ (e ii : Bool) (lv a b v : Nat), total xs = run (xs.drop i) i st e ii lv a b v F
/-- eachField's loop head. -/
structure EHead (xs : List Int) (i : Nat) (F : List (Nat × Nat × Nat × Nat)) : Prop where
  st : ∃ st, (st = 9 ∨ (st = 1 ∧ (i < xs.length → xs.getD i 0 ≠ 125))) ∧ AtSt xs i st F
  dark : i < xs.length → ws (xs.getD i 0) = false
  hi : i ≤ xs.length
  good : Good xs.length F
  few : F.length ≤ i

section
variable {xs : List Int} {i j r ne vs : Nat} {F : List (Nat × Nat × Nat × Nat)}

theorem e_not (h : Skip xs 0 i) (hb : i < xs.length → xs.getD i 0 ≠ 123) : total xs = ([], true) := by
  have h0 : total xs = run (xs.drop 0) 0 0 false false 0 0 0 0 [] := rfl
  rw [h0, h.run (by omega)]
  by_cases hi : i < xs.length
  · rw [drop_at hi, run_0, if_neg (hb hi), if_neg (by rw [h.stop hi]; decide)]
  · have := h.hi
    rw [show i = xs.length by omega, List.drop_length]; rfl
theorem e_open (h : Skip xs 0 i) (hi : i < xs.length) (hb : xs.getD i 0 = 123) (h2 : Skip xs (i + 1) j) : AtSt xs j 1 [] := by
  refine ⟨false, false, 0, 0, 0, 0, ?_⟩
  have h0 : total xs = run (xs.drop 0) 0 0 false false 0 0 0 0 [] := rfl
  rw [h0, h.run (by omega), drop_at hi, run_0, if_pos hb, h2.run (by omega)]
theorem e_empty (h : AtSt xs j 1 F) (hj : j < xs.length) (hb : xs.getD j 0 = 125) : total xs = (F, false) := by
  obtain ⟨e, ii, lv, a, b, v, he⟩ := h
  rw [he, drop_at hj, run_1, if_neg (by rw [hb]; decide), if_pos hb]
theorem e_first (h : AtSt xs j 1 []) (h2 : Skip xs (i + 1) j) (hb : j < xs.length → xs.getD j 0 ≠ 125) : EHead xs j [] :=
  ⟨⟨1, .inr ⟨rfl, hb⟩, h⟩, h2.stop, h2.hi, (fun t ht => by simp at ht), Nat.zero_le _⟩
theorem e_err (h : EHead xs i F) (hf : FErr xs i) : total xs = (F, true) := by
  obtain ⟨st, hst, e, ii, lv, a, b, v, he⟩ := h.st
  rw [he, hf st hst]
theorem e_ok (h : EHead xs i F) (hf : FOk xs i ne vs r) (h2 : Skip xs r j) : AtSt xs j 8 (F ++ [(i, ne, vs, r)]) := by
  obtain ⟨st, hst, e, ii, lv, a, b, v, he⟩ := h.st
  obtain ⟨e', i', lv', a', b', v', hr⟩ := hf.2.2.2.2 st (by omega) e ii lv a b v F
  exact ⟨e', i', lv', a', b', v', by rw [he, hr, h2.run (by omega)]⟩
theorem e_good (h : EHead xs i F) (hf : FOk xs i ne vs r) : Good xs.length (F ++ [(i, ne, vs, r)]) := by
  intro t ht
  rcases List.mem_append.1 ht with ht | ht
  · exact h.good t ht
  · simp only [List.mem_cons, List.not_mem_nil, or_false] at ht
    subst ht
    exact ⟨hf.1, hf.2.1, hf.2.2.1, hf.2.2.2.1⟩
theorem e_out (h : AtSt xs j 8 F) (hj : j = xs.length) : total xs = (F, true) := by
  obtain ⟨e, ii, lv, a, b, v, he⟩ := h
  rw [he, hj, List.drop_length]; rfl
theorem e_done (h : AtSt xs j 8 F) (hj : j < xs.length) (hb : xs.getD j 0 = 125) : total xs = (F, false) := by
  obtain ⟨e, ii, lv, a, b, v, he⟩ := h
  rw [he, drop_at hj, run_8, if_neg (by rw [hb]; decide), if_pos hb]
theorem e_bad (h : AtSt xs j 8 F) (hj : j < xs.length) (hw : ws (xs.getD j 0) = false) (h1 : xs.getD j 0 ≠ 44) (h2 : xs.getD j 0 ≠ 125) : total xs = (F, true) := by
  obtain ⟨e, ii, lv, a, b, v, he⟩ := h
  rw [he, drop_at hj, run_8, if_neg h1, if_neg h2, if_neg (by rw [hw]; decide)]
theorem e_next {k : Nat} (h : AtSt xs j 8 F) (hj : j < xs.length) (hb : xs.getD j 0 = 44) (h2 : Skip xs (j + 1) k) (hg : Good xs.length F) (hl : F.length ≤ k) : EHead xs k F := by
  obtain ⟨e, ii, lv, a, b, v, he⟩ := h
  exact ⟨⟨9, .inl rfl, e, ii, lv, a, b, v, by rw [he, drop_at hj, run_8, if_pos hb, h2.run (by omega)]⟩, h2.stop, h2.hi, hg, hl⟩
end

end Go.Proofs.Qxb6608652aDoor
