import Derived.Test.Qxb6608652aDoorPlain
namespace Go.Proofs.Qxb6608652aDoor
set_option linter.unusedVariables false
set_option linter.unusedSimpArgs false

/-- valueEnd's answer in the automaton's words: the value at i ends at r. -/
def VOk (xs : List Int) (i r : Nat) : Prop := i < r ∧ r ≤ xs.length ∧ ∀ (e0 i0 : Bool) (lv0 a b v0 : Nat) (F : List (Nat × Nat × Nat × Nat)), ∃ (e' i' : Bool) (lv' v' : Nat), run (xs.drop i) i 4 e0 i0 lv0 a b v0 F = run (xs.drop r) r 8 e' i' lv' a b v' (F ++ [(a, b, i, r)])
/-- .. there is none. -/
def VErr (xs : List Int) (i : Nat) : Prop := ∀ (e0 i0 : Bool) (lv0 a b v0 : Nat) (F : List (Nat × Nat × Nat × Nat)), run (xs.drop i) i 4 e0 i0 lv0 a b v0 F = (F, true)
/-- Inside a nested value that began at i: at k, level L. -/
def Nest (xs : List Int) (i k L : Nat) : Prop := i < k ∧ k ≤ xs.length ∧ 1 ≤ L ∧ L ≤ k ∧ ∀ (e0 i0 : Bool) (lv0 a b v0 : Nat) (F : List (Nat × Nat × Nat × Nat)), ∃ e' : Bool, run (xs.drop i) i 4 e0 i0 lv0 a b v0 F = run (xs.drop k) k 6 e' false L a b i F

section
variable {xs : List Int} {i k L r : Nat}

theorem v_str_ok (hi : i < xs.length) (h34 : xs.getD i 0 = 34) (h : SEnd xs i r) : VOk xs i r := by
  obtain ⟨d, hr, hle, _⟩ := h.at'
  refine ⟨by omega, hle, fun e0 i0 lv0 a b v0 F => ⟨false, i0, lv0, i, ?_⟩⟩
  rw [drop_at hi, run_4, if_neg (by rw [h34]; decide), if_pos h34, send_val h]
theorem v_str_no (hi : i < xs.length) (h34 : xs.getD i 0 = 34) (h : SNo xs i) : VErr xs i := by
  intro e0 i0 lv0 a b v0 F
  rw [drop_at hi, run_4, if_neg (by rw [h34]; decide), if_pos h34, sno_val hi h]
theorem v_end (hi : i = xs.length) : VErr xs i := by
  intro e0 i0 lv0 a b v0 F
  rw [hi, List.drop_length]; rfl
theorem v_fol (hi : i < xs.length) (hw : ws (xs.getD i 0) = false) (h34 : xs.getD i 0 ≠ 34) (hb : ¬ (xs.getD i 0 = 123 ∨ xs.getD i 0 = 91)) (hf : fol (xs.getD i 0) = true) : VErr xs i := by
  intro e0 i0 lv0 a b v0 F
  rw [drop_at hi, run_4, if_neg (by rw [hw]; decide), if_neg h34, if_neg hb, if_pos hf]
theorem v_open (hi : i < xs.length) (hw : ws (xs.getD i 0) = false) (h34 : xs.getD i 0 ≠ 34) (hb : xs.getD i 0 = 123 ∨ xs.getD i 0 = 91) : Nest xs i (i + 1) 1 := by
  refine ⟨by omega, by omega, by omega, by omega, fun e0 i0 lv0 a b v0 F => ⟨e0, ?_⟩⟩
  rw [drop_at hi, run_4, if_neg (by rw [hw]; decide), if_neg h34, if_pos hb]

theorem n_str_ok (h : Nest xs i k L) (hk : k < xs.length) (h34 : xs.getD k 0 = 34) (hs : SEnd xs k r) : Nest xs i r L := by
  obtain ⟨d, hr, hle, _⟩ := hs.at'
  obtain ⟨h1, h2, h3, h3', h4⟩ := h
  refine ⟨by omega, hle, h3, by omega, fun e0 i0 lv0 a b v0 F => ?_⟩
  obtain ⟨e', he⟩ := h4 e0 i0 lv0 a b v0 F
  refine ⟨false, ?_⟩
  rw [he, drop_at hk, run_6, if_pos h34, send_nest hs true]
theorem n_str_no (h : Nest xs i k L) (hk : k < xs.length) (h34 : xs.getD k 0 = 34) (hs : SNo xs k) : VErr xs i := by
  intro e0 i0 lv0 a b v0 F
  obtain ⟨e', he⟩ := h.2.2.2.2 e0 i0 lv0 a b v0 F
  rw [he, drop_at hk, run_6, if_pos h34, sno_nest hk hs true]
theorem n_end (h : Nest xs i k L) (hk : k = xs.length) : VErr xs i := by
  intro e0 i0 lv0 a b v0 F
  obtain ⟨e', he⟩ := h.2.2.2.2 e0 i0 lv0 a b v0 F
  rw [he, hk, List.drop_length]; rfl
theorem n_open (h : Nest xs i k L) (hk : k < xs.length) (h34 : xs.getD k 0 ≠ 34) (hb : xs.getD k 0 = 123 ∨ xs.getD k 0 = 91) : Nest xs i (k + 1) (L + 1) := by
  obtain ⟨h1, h2, h3, h3', h4⟩ := h
  refine ⟨by omega, by omega, by omega, by omega, fun e0 i0 lv0 a b v0 F => ?_⟩
  obtain ⟨e', he⟩ := h4 e0 i0 lv0 a b v0 F
  refine ⟨e', ?_⟩
  rw [he, drop_at hk, run_6, if_neg h34, if_pos hb]
theorem n_shut (h : Nest xs i k L) (hk : k < xs.length) (h34 : xs.getD k 0 ≠ 34) (hb : ¬ (xs.getD k 0 = 123 ∨ xs.getD k 0 = 91)) (hc : xs.getD k 0 = 125 ∨ xs.getD k 0 = 93) (hL : 2 ≤ L) : Nest xs i (k + 1) (L - 1) := by
  obtain ⟨h1, h2, h3, h3', h4⟩ := h
  refine ⟨by omega, by omega, by omega, by omega, fun e0 i0 lv0 a b v0 F => ?_⟩
  obtain ⟨e', he⟩ := h4 e0 i0 lv0 a b v0 F
  refine ⟨e', ?_⟩
  rw [he, drop_at hk, run_6, if_neg h34, if_neg hb, if_pos hc, if_neg (by omega)]
theorem n_last (h : Nest xs i k L) (hk : k < xs.length) (h34 : xs.getD k 0 ≠ 34) (hb : ¬ (xs.getD k 0 = 123 ∨ xs.getD k 0 = 91)) (hc : xs.getD k 0 = 125 ∨ xs.getD k 0 = 93) (hL : L = 1) : VOk xs i (k + 1) := by
  obtain ⟨h1, h2, h3, h3', h4⟩ := h
  refine ⟨by omega, by omega, fun e0 i0 lv0 a b v0 F => ?_⟩
  obtain ⟨e', he⟩ := h4 e0 i0 lv0 a b v0 F
  refine ⟨e', false, L - 1, i, ?_⟩
  rw [he, drop_at hk, run_6, if_neg h34, if_neg hb, if_pos hc, if_pos (by omega)]
theorem n_other (h : Nest xs i k L) (hk : k < xs.length) (h34 : xs.getD k 0 ≠ 34) (hb : ¬ (xs.getD k 0 = 123 ∨ xs.getD k 0 = 91)) (hc : ¬ (xs.getD k 0 = 125 ∨ xs.getD k 0 = 93)) : Nest xs i (k + 1) L := by
  obtain ⟨h1, h2, h3, h3', h4⟩ := h
  refine ⟨by omega, by omega, h3, by omega, fun e0 i0 lv0 a b v0 F => ?_⟩
  obtain ⟨e', he⟩ := h4 e0 i0 lv0 a b v0 F
  refine ⟨e', ?_⟩
  rw [he, drop_at hk, run_6, if_neg h34, if_neg hb, if_neg hc]

theorem bare_run (e ii : Bool) (lv a b v : Nat) (F : List (Nat × Nat × Nat × Nat)) : ∀ (d k : Nat), k + d ≤ xs.length → (∀ j, k ≤ j → j < k + d → fol (xs.getD j 0) = false) →
    run (xs.drop k) k 7 e ii lv a b v F = run (xs.drop (k + d)) (k + d) 7 e ii lv a b v F
  | 0, k, _, _ => rfl
  | d + 1, k, h, hf => by
    rw [drop_at (by omega), run_7, if_neg (by rw [hf k (Nat.le_refl _) (by omega)]; decide), bare_run e ii lv a b v F d (k + 1) (by omega) (fun j h1 h2 => hf j (by omega) (by omega))]
    rw [show k + 1 + d = k + (d + 1) by omega]
theorem v_bare (hi : i < xs.length) (hw : ws (xs.getD i 0) = false) (h34 : xs.getD i 0 ≠ 34) (hb : ¬ (xs.getD i 0 = 123 ∨ xs.getD i 0 = 91)) (hir : i < r) (hr : r ≤ xs.length)
    (hall : ∀ j, i ≤ j → j < r → fol (xs.getD j 0) = false) (hst : r < xs.length → fol (xs.getD r 0) = true) : VOk xs i r := by
  refine ⟨hir, hr, fun e0 i0 lv0 a b v0 F => ⟨e0, i0, lv0, i, ?_⟩⟩
  have hf := hall i (Nat.le_refl _) hir
  rw [drop_at hi, run_4, if_neg (by rw [hw]; decide), if_neg h34, if_neg hb, if_neg (by rw [hf]; decide)]
  have := bare_run (xs := xs) e0 i0 lv0 a b i F (r - (i + 1)) (i + 1) (by omega) (fun j h1 h2 => hall j (by omega) (by omega))
  rw [this, show i + 1 + (r - (i + 1)) = r by omega]
  by_cases hrn : r < xs.length
  · rw [drop_at hrn, run_7, if_pos (hst hrn)]
  · have hre : r = xs.length := by omega
    rw [hre, List.drop_length]; rfl
end

/-! ### A field -/
/-- fieldAt's answer: the field at i has its name up to ne, its value from vs to r. -/
def FOk (xs : List Int) (i ne vs r : Nat) : Prop := i < ne ∧ ne ≤ vs ∧ vs < r ∧ r ≤ xs.length ∧ ∀ st, (st = 1 ∨ st = 9) → ∀ (e0 i0 : Bool) (lv0 a b v0 : Nat) (F : List (Nat × Nat × Nat × Nat)), ∃ (e' i' : Bool) (lv' a' b' v' : Nat),
  run (xs.drop i) i st e0 i0 lv0 a b v0 F = run (xs.drop r) r 8 e' i' lv' a' b' v' (F ++ [(i, ne, vs, r)])
def FErr (xs : List Int) (i : Nat) : Prop := ∀ st, (st = 9 ∨ (st = 1 ∧ (i < xs.length → xs.getD i 0 ≠ 125))) → ∀ (e0 i0 : Bool) (lv0 a b v0 : Nat) (F : List (Nat × Nat × Nat × Nat)), run (xs.drop i) i st e0 i0 lv0 a b v0 F = (F, true)

section
variable {xs : List Int} {i ne c vs r : Nat}
theorem f_end (hi : i = xs.length) : FErr xs i := by
  rintro st (rfl | ⟨rfl, _⟩) e0 i0 lv0 a b v0 F <;> (rw [hi, List.drop_length]; rfl)
theorem f_noquote (hi : i < xs.length) (hw : ws (xs.getD i 0) = false) (h34 : xs.getD i 0 ≠ 34) : FErr xs i := by
  rintro st (rfl | ⟨rfl, h125⟩) e0 i0 lv0 a b v0 F
  · rw [drop_at hi, run_9, if_neg h34, if_neg (by rw [hw]; decide)]
  · rw [drop_at hi, run_1, if_neg h34, if_neg (h125 hi), if_neg (by rw [hw]; decide)]
theorem f_start (hi : i < xs.length) (h34 : xs.getD i 0 = 34) {st : Nat} (hst : st = 1 ∨ st = 9) (e0 i0 : Bool) (lv0 a b v0 : Nat) (F : List (Nat × Nat × Nat × Nat)) : run (xs.drop i) i st e0 i0 lv0 a b v0 F = run (xs.drop (i + 1)) (i + 1) 2 false i0 lv0 i b v0 F := by
  rcases hst with rfl | rfl
  · rw [drop_at hi, run_1, if_pos h34]
  · rw [drop_at hi, run_9, if_pos h34]
theorem f_noname (hi : i < xs.length) (h34 : xs.getD i 0 = 34) (h : SNo xs i) : FErr xs i := by
  intro st hst e0 i0 lv0 a b v0 F
  rw [f_start hi h34 (by omega), sno_name hi h]
theorem f_named (hi : i < xs.length) (h34 : xs.getD i 0 = 34) (h : SEnd xs i ne) (hs : Skip xs ne c) {st : Nat} (hst : st = 1 ∨ st = 9) (e0 i0 : Bool) (lv0 a b v0 : Nat) (F : List (Nat × Nat × Nat × Nat)) :
    run (xs.drop i) i st e0 i0 lv0 a b v0 F = run (xs.drop c) c 3 false i0 lv0 i ne v0 F := by
  rw [f_start hi h34 hst, send_name h, hs.run (by omega)]
theorem f_nocolon (hi : i < xs.length) (h34 : xs.getD i 0 = 34) (h : SEnd xs i ne) (hs : Skip xs ne c) (hc : c < xs.length → xs.getD c 0 ≠ 58) : FErr xs i := by
  intro st hst e0 i0 lv0 a b v0 F
  rw [f_named hi h34 h hs (by omega)]
  by_cases hcl : c < xs.length
  · rw [drop_at hcl, run_3, if_neg (hc hcl), if_neg (by rw [hs.stop hcl]; decide)]
  · have := hs.hi
    rw [show c = xs.length by omega, List.drop_length]; rfl
theorem f_colon (hi : i < xs.length) (h34 : xs.getD i 0 = 34) (h : SEnd xs i ne) (hs : Skip xs ne c) (hcl : c < xs.length) (hc : xs.getD c 0 = 58) (hs2 : Skip xs (c + 1) vs) {st : Nat} (hst : st = 1 ∨ st = 9) (e0 i0 : Bool) (lv0 a b v0 : Nat) (F : List (Nat × Nat × Nat × Nat)) :
    run (xs.drop i) i st e0 i0 lv0 a b v0 F = run (xs.drop vs) vs 4 false i0 lv0 i ne v0 F := by
  rw [f_named hi h34 h hs hst, drop_at hcl, run_3, if_pos hc, hs2.run (by omega)]
theorem f_novalue (hi : i < xs.length) (h34 : xs.getD i 0 = 34) (h : SEnd xs i ne) (hs : Skip xs ne c) (hcl : c < xs.length) (hc : xs.getD c 0 = 58) (hs2 : Skip xs (c + 1) vs) (hv : VErr xs vs) : FErr xs i := by
  intro st hst e0 i0 lv0 a b v0 F
  rw [f_colon hi h34 h hs hcl hc hs2 (by omega), hv]
theorem f_ok (hi : i < xs.length) (h34 : xs.getD i 0 = 34) (h : SEnd xs i ne) (hs : Skip xs ne c) (hcl : c < xs.length) (hc : xs.getD c 0 = 58) (hs2 : Skip xs (c + 1) vs) (hv : VOk xs vs r) : FOk xs i ne vs r := by
  obtain ⟨d, hne, hle, _⟩ := h.at'
  have h1 := hs.lo
  have h2 := hs2.lo
  refine ⟨by omega, by omega, hv.1, hv.2.1, fun st hst e0 i0 lv0 a b v0 F => ?_⟩
  obtain ⟨e', i', lv', v', he⟩ := hv.2.2 false i0 lv0 i ne v0 F
  exact ⟨e', i', lv', i, ne, v', by rw [f_colon hi h34 h hs hcl hc hs2 hst, he]⟩
end

end Go.Proofs.Qxb6608652aDoor
