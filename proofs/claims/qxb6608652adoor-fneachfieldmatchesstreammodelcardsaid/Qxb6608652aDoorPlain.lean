import Derived.Lib.IndexLaws
import Derived.Lib.Bytes
namespace Go.Proofs.Qxb6608652aDoor
set_option linter.unusedVariables false
set_option linter.unusedSimpArgs false

/-- White space. -/
def ws (z : Int) : Bool := z == 32 || z == 9 || z == 13 || z == 10
/-- A byte that may follow a bare value. -/
def fol (z : Int) : Bool := ws z || z == 44 || z == 58 || z == 93 || z == 125

/-- THE AUTOMATON of zzjoModelFields over what is left of the text. The state's number as in the Go text: 0 before, 1 open, 2 name, 3 behind the name, 4 behind the colon, 5 a string value, 6 a nested value, 7 a bare value, 8 behind a value, 9 behind a comma, 10 done. -/
def run : List Int → Nat → Nat → Bool → Bool → Nat → Nat → Nat → Nat → List (Nat × Nat × Nat × Nat) → List (Nat × Nat × Nat × Nat) × Bool
  | [], p, st, e, i, lv, a, b, v, F => if st = 10 then (F, false) else if st = 7 then (F ++ [(a, b, v, p)], true) else (F, true)
  | c :: l, p, st, e, i, lv, a, b, v, F =>
    if st = 0 then (if c = 123 then run l (p + 1) 1 e i lv a b v F else if ws c then run l (p + 1) 0 e i lv a b v F else (F, true))
    else if st = 1 then (if c = 34 then run l (p + 1) 2 false i lv p b v F else if c = 125 then (F, false) else if ws c then run l (p + 1) 1 e i lv a b v F else (F, true))
    else if st = 9 then (if c = 34 then run l (p + 1) 2 false i lv p b v F else if ws c then run l (p + 1) 9 e i lv a b v F else (F, true))
    else if st = 2 then (if e then run l (p + 1) 2 false i lv a b v F else if c = 92 then run l (p + 1) 2 true i lv a b v F else if c = 34 then run l (p + 1) 3 e i lv a (p + 1) v F else run l (p + 1) 2 e i lv a b v F)
    else if st = 3 then (if c = 58 then run l (p + 1) 4 e i lv a b v F else if ws c then run l (p + 1) 3 e i lv a b v F else (F, true))
    else if st = 4 then (if ws c then run l (p + 1) 4 e i lv a b v F else if c = 34 then run l (p + 1) 5 false i lv a b p F else if c = 123 ∨ c = 91 then run l (p + 1) 6 e false 1 a b p F else if fol c then (F, true) else run l (p + 1) 7 e i lv a b p F)
    else if st = 5 then (if e then run l (p + 1) 5 false i lv a b v F else if c = 92 then run l (p + 1) 5 true i lv a b v F else if c = 34 then run l (p + 1) 8 e i lv a b v (F ++ [(a, b, v, p + 1)]) else run l (p + 1) 5 e i lv a b v F)
    else if st = 6 then
      (if i then (if e then run l (p + 1) 6 false i lv a b v F else if c = 92 then run l (p + 1) 6 true i lv a b v F else if c = 34 then run l (p + 1) 6 e false lv a b v F else run l (p + 1) 6 e i lv a b v F)
      else if c = 34 then run l (p + 1) 6 false true lv a b v F else if c = 123 ∨ c = 91 then run l (p + 1) 6 e i (lv + 1) a b v F
      else if c = 125 ∨ c = 93 then (if lv - 1 = 0 then run l (p + 1) 8 e i (lv - 1) a b v (F ++ [(a, b, v, p + 1)]) else run l (p + 1) 6 e i (lv - 1) a b v F) else run l (p + 1) 6 e i lv a b v F)
    else if st = 7 then (if fol c then (if c = 44 then run l (p + 1) 9 e i lv a b v (F ++ [(a, b, v, p)]) else if c = 125 then (F ++ [(a, b, v, p)], false) else if ws c then run l (p + 1) 8 e i lv a b v (F ++ [(a, b, v, p)]) else (F ++ [(a, b, v, p)], true)) else run l (p + 1) 7 e i lv a b v F)
    else if st = 8 then (if c = 44 then run l (p + 1) 9 e i lv a b v F else if c = 125 then (F, false) else if ws c then run l (p + 1) 8 e i lv a b v F else (F, true))
    else (F, false)

section
variable (c : Int) (l : List Int) (p : Nat) (e i : Bool) (lv a b v : Nat) (F : List (Nat × Nat × Nat × Nat))
theorem run_0 : run (c :: l) p 0 e i lv a b v F = if c = 123 then run l (p + 1) 1 e i lv a b v F else if ws c then run l (p + 1) 0 e i lv a b v F else (F, true) := rfl
theorem run_1 : run (c :: l) p 1 e i lv a b v F = if c = 34 then run l (p + 1) 2 false i lv p b v F else if c = 125 then (F, false) else if ws c then run l (p + 1) 1 e i lv a b v F else (F, true) := rfl
theorem run_9 : run (c :: l) p 9 e i lv a b v F = if c = 34 then run l (p + 1) 2 false i lv p b v F else if ws c then run l (p + 1) 9 e i lv a b v F else (F, true) := rfl
theorem run_2 : run (c :: l) p 2 e i lv a b v F = if e then run l (p + 1) 2 false i lv a b v F else if c = 92 then run l (p + 1) 2 true i lv a b v F else if c = 34 then run l (p + 1) 3 e i lv a (p + 1) v F else run l (p + 1) 2 e i lv a b v F := rfl
theorem run_3 : run (c :: l) p 3 e i lv a b v F = if c = 58 then run l (p + 1) 4 e i lv a b v F else if ws c then run l (p + 1) 3 e i lv a b v F else (F, true) := rfl
theorem run_4 : run (c :: l) p 4 e i lv a b v F = if ws c then run l (p + 1) 4 e i lv a b v F else if c = 34 then run l (p + 1) 5 false i lv a b p F else if c = 123 ∨ c = 91 then run l (p + 1) 6 e false 1 a b p F else if fol c then (F, true) else run l (p + 1) 7 e i lv a b p F := rfl
theorem run_5 : run (c :: l) p 5 e i lv a b v F = if e then run l (p + 1) 5 false i lv a b v F else if c = 92 then run l (p + 1) 5 true i lv a b v F else if c = 34 then run l (p + 1) 8 e i lv a b v (F ++ [(a, b, v, p + 1)]) else run l (p + 1) 5 e i lv a b v F := rfl
theorem run_6s : run (c :: l) p 6 e true lv a b v F = if e then run l (p + 1) 6 false true lv a b v F else if c = 92 then run l (p + 1) 6 true true lv a b v F else if c = 34 then run l (p + 1) 6 e false lv a b v F else run l (p + 1) 6 e true lv a b v F := rfl
theorem run_6 : run (c :: l) p 6 e false lv a b v F = if c = 34 then run l (p + 1) 6 false true lv a b v F else if c = 123 ∨ c = 91 then run l (p + 1) 6 e false (lv + 1) a b v F
      else if c = 125 ∨ c = 93 then (if lv - 1 = 0 then run l (p + 1) 8 e false (lv - 1) a b v (F ++ [(a, b, v, p + 1)]) else run l (p + 1) 6 e false (lv - 1) a b v F) else run l (p + 1) 6 e false lv a b v F := rfl
theorem run_7 : run (c :: l) p 7 e i lv a b v F = if fol c then run (c :: l) p 8 e i lv a b v (F ++ [(a, b, v, p)]) else run l (p + 1) 7 e i lv a b v F := rfl
theorem run_8 : run (c :: l) p 8 e i lv a b v F = if c = 44 then run l (p + 1) 9 e i lv a b v F else if c = 125 then (F, false) else if ws c then run l (p + 1) 8 e i lv a b v F else (F, true) := rfl
theorem run_10 : run (c :: l) p 10 e i lv a b v F = (F, false) := rfl
end

theorem ws_ne {c : Int} (h : ws c = true) : c ≠ 123 ∧ c ≠ 34 ∧ c ≠ 125 ∧ c ≠ 58 ∧ c ≠ 44 ∧ c ≠ 92 := by
  simp only [ws, Bool.or_eq_true, beq_iff_eq] at h
  omega

/-- White space is passed over in six states. -/
theorem ws_step {st : Nat} (hst : st = 0 ∨ st = 1 ∨ st = 3 ∨ st = 4 ∨ st = 8 ∨ st = 9) {c : Int} (h : ws c = true) (l : List Int) (p : Nat) (e i : Bool) (lv a b v : Nat) (F : List (Nat × Nat × Nat × Nat)) :
    run (c :: l) p st e i lv a b v F = run l (p + 1) st e i lv a b v F := by
  obtain ⟨h1, h2, h3, h4, h5, _⟩ := ws_ne h
  rcases hst with rfl | rfl | rfl | rfl | rfl | rfl
  · rw [run_0, if_neg h1, if_pos h]
  · rw [run_1, if_neg h2, if_neg h3, if_pos h]
  · rw [run_3, if_neg h4, if_pos h]
  · rw [run_4, if_pos h]
  · rw [run_8, if_neg h5, if_neg h3, if_pos h]
  · rw [run_9, if_neg h2, if_pos h]

/-- What is left from k on. -/
theorem drop_at {xs : List Int} {k : Nat} (h : k < xs.length) : xs.drop k = xs.getD k 0 :: xs.drop (k + 1) := by
  rw [List.drop_eq_getElem_cons h]
  simp [List.getD, h]

/-- skipSpace's answer. -/
structure Skip (xs : List Int) (i r : Nat) : Prop where
  lo : i ≤ r
  hi : r ≤ xs.length
  white : ∀ j, i ≤ j → j < r → ws (xs.getD j 0) = true
  stop : r < xs.length → ws (xs.getD r 0) = false

theorem run_skip {st : Nat} (hst : st = 0 ∨ st = 1 ∨ st = 3 ∨ st = 4 ∨ st = 8 ∨ st = 9) {xs : List Int} (e i : Bool) (lv a b v : Nat) (F : List (Nat × Nat × Nat × Nat)) : ∀ (d k : Nat), k + d ≤ xs.length → (∀ j, k ≤ j → j < k + d → ws (xs.getD j 0) = true) →
    run (xs.drop k) k st e i lv a b v F = run (xs.drop (k + d)) (k + d) st e i lv a b v F
  | 0, k, _, _ => rfl
  | d + 1, k, h, hw => by
    rw [drop_at (by omega), ws_step hst (hw k (Nat.le_refl _) (by omega)), run_skip hst e i lv a b v F d (k + 1) (by omega) (fun j h1 h2 => hw j (by omega) (by omega))]
    rw [show k + 1 + d = k + (d + 1) by omega]

theorem Skip.run {xs : List Int} {k r : Nat} (h : Skip xs k r) {st : Nat} (hst : st = 0 ∨ st = 1 ∨ st = 3 ∨ st = 4 ∨ st = 8 ∨ st = 9) (e i : Bool) (lv a b v : Nat) (F : List (Nat × Nat × Nat × Nat)) :
    run (xs.drop k) k st e i lv a b v F = run (xs.drop r) r st e i lv a b v F := by
  have h1 := h.lo
  have h2 := h.hi
  have := run_skip hst (xs := xs) e i lv a b v F (r - k) k (by omega) (fun j hj hj2 => h.white j hj (by omega))
  rwa [show k + (r - k) = r by omega] at this

/-! ### A string's end -/
/-- Is the byte at place i + 1 + d escaped, the string having opened at i? -/
def esc (xs : List Int) (i : Nat) : Nat → Bool
  | 0 => false
  | d + 1 => if esc xs i d then false else xs.getD (i + 1 + d) 0 == 92
/-- The string that opened at i closes at i + 1 + d. -/
def shuts (xs : List Int) (i d : Nat) : Bool := xs.getD (i + 1 + d) 0 == 34 && !esc xs i d
/-- stringEnd's answer: r is just behind the closing quote. -/
structure SEnd (xs : List Int) (i r : Nat) : Prop where
  at' : ∃ d, r = i + 1 + d + 1 ∧ r ≤ xs.length ∧ shuts xs i d = true ∧ ∀ j, j < d → shuts xs i j = false
/-- stringEnd's other answer. -/
def SNo (xs : List Int) (i : Nat) : Prop := ∀ d, i + 1 + d < xs.length → shuts xs i d = false

theorem esc_run {xs : List Int} {i d0 : Nat} (h0 : esc xs i d0 = false) : ∀ t, (∀ j, j < t → xs.getD (i + 1 + (d0 + j)) 0 = 92) → esc xs i (d0 + t) = (t % 2 == 1)
  | 0, _ => h0
  | t + 1, h => by
    have ih := esc_run h0 t (fun j hj => h j (by omega))
    show (if esc xs i (d0 + t) then false else xs.getD (i + 1 + (d0 + t)) 0 == 92) = _
    rw [ih, h t (by omega)]
    rcases Nat.mod_two_eq_zero_or_one t with ht | ht
    · have h2 : (t + 1) % 2 = 1 := by omega
      simp [ht, h2]
    · have h2 : (t + 1) % 2 = 0 := by omega
      simp [ht, h2]
theorem esc_not {xs : List Int} {i d : Nat} (h : xs.getD (i + 1 + d) 0 ≠ 92) : esc xs i (d + 1) = false := by
  show (if esc xs i d then false else xs.getD (i + 1 + d) 0 == 92) = _
  split
  · rfl
  · simpa using h

/-- The automaton inside a string (state 2): up to place d. -/
theorem str_name {xs : List Int} {i : Nat} (ii : Bool) (lv a b v : Nat) (F : List (Nat × Nat × Nat × Nat)) : ∀ d, i + 1 + d ≤ xs.length → (∀ j, j < d → shuts xs i j = false) →
    run (xs.drop (i + 1)) (i + 1) 2 false ii lv a b v F = run (xs.drop (i + 1 + d)) (i + 1 + d) 2 (esc xs i d) ii lv a b v F
  | 0, _, _ => rfl
  | d + 1, h, hno => by
    rw [str_name ii lv a b v F d (by omega) (fun j hj => hno j (by omega)), drop_at (show i + 1 + d < xs.length by omega), run_2]
    have hd := hno d (by omega)
    have e1 : esc xs i (d + 1) = if esc xs i d then false else xs.getD (i + 1 + d) 0 == 92 := rfl
    rw [show i + 1 + (d + 1) = i + 1 + d + 1 by omega, e1]
    by_cases he : esc xs i d = true
    · rw [if_pos he, if_pos he]
    · rw [if_neg he, if_neg he]
      have he' : esc xs i d = false := by simpa using he
      by_cases h92 : xs.getD (i + 1 + d) 0 = 92
      · rw [if_pos h92, h92]; rfl
      · rw [if_neg h92]
        have h34 : xs.getD (i + 1 + d) 0 ≠ 34 := by
          intro h34; rw [shuts, h34, he'] at hd; exact absurd hd (by decide)
        rw [if_neg h34, he']
        have : (xs.getD (i + 1 + d) 0 == 92) = false := by simpa using h92
        rw [this]
theorem send_name {xs : List Int} {i r : Nat} (h : SEnd xs i r) (ii : Bool) (lv a b v : Nat) (F : List (Nat × Nat × Nat × Nat)) :
    run (xs.drop (i + 1)) (i + 1) 2 false ii lv a b v F = run (xs.drop r) (r) 3 false ii lv a (r) v F := by
  obtain ⟨d, rfl, hr, hs, hno⟩ := h.at'
  rw [str_name ii lv a b v F d (by omega) hno, drop_at (show i + 1 + d < xs.length by omega), run_2]
  simp only [shuts, Bool.and_eq_true, beq_iff_eq, Bool.not_eq_true'] at hs
  rw [hs.2, if_neg (by simp), if_neg (by rw [hs.1]; decide), if_pos hs.1]
theorem sno_name {xs : List Int} {i : Nat} (hi : i < xs.length) (h : SNo xs i) (ii : Bool) (lv a b v : Nat) (F : List (Nat × Nat × Nat × Nat)) :
    run (xs.drop (i + 1)) (i + 1) 2 false ii lv a b v F = (F, true) := by
  rw [str_name ii lv a b v F (xs.length - (i + 1)) (by omega) (fun j hj => h j (by omega)), show i + 1 + (xs.length - (i + 1)) = xs.length by omega, List.drop_length]
  rfl

/-- The automaton inside a string (state 5): up to place d. -/
theorem str_val {xs : List Int} {i : Nat} (ii : Bool) (lv a b v : Nat) (F : List (Nat × Nat × Nat × Nat)) : ∀ d, i + 1 + d ≤ xs.length → (∀ j, j < d → shuts xs i j = false) →
    run (xs.drop (i + 1)) (i + 1) 5 false ii lv a b v F = run (xs.drop (i + 1 + d)) (i + 1 + d) 5 (esc xs i d) ii lv a b v F
  | 0, _, _ => rfl
  | d + 1, h, hno => by
    rw [str_val ii lv a b v F d (by omega) (fun j hj => hno j (by omega)), drop_at (show i + 1 + d < xs.length by omega), run_5]
    have hd := hno d (by omega)
    have e1 : esc xs i (d + 1) = if esc xs i d then false else xs.getD (i + 1 + d) 0 == 92 := rfl
    rw [show i + 1 + (d + 1) = i + 1 + d + 1 by omega, e1]
    by_cases he : esc xs i d = true
    · rw [if_pos he, if_pos he]
    · rw [if_neg he, if_neg he]
      have he' : esc xs i d = false := by simpa using he
      by_cases h92 : xs.getD (i + 1 + d) 0 = 92
      · rw [if_pos h92, h92]; rfl
      · rw [if_neg h92]
        have h34 : xs.getD (i + 1 + d) 0 ≠ 34 := by
          intro h34; rw [shuts, h34, he'] at hd; exact absurd hd (by decide)
        rw [if_neg h34, he']
        have : (xs.getD (i + 1 + d) 0 == 92) = false := by simpa using h92
        rw [this]
theorem send_val {xs : List Int} {i r : Nat} (h : SEnd xs i r) (ii : Bool) (lv a b v : Nat) (F : List (Nat × Nat × Nat × Nat)) :
    run (xs.drop (i + 1)) (i + 1) 5 false ii lv a b v F = run (xs.drop r) (r) 8 false ii lv a b v (F ++ [(a, b, v, r)]) := by
  obtain ⟨d, rfl, hr, hs, hno⟩ := h.at'
  rw [str_val ii lv a b v F d (by omega) hno, drop_at (show i + 1 + d < xs.length by omega), run_5]
  simp only [shuts, Bool.and_eq_true, beq_iff_eq, Bool.not_eq_true'] at hs
  rw [hs.2, if_neg (by simp), if_neg (by rw [hs.1]; decide), if_pos hs.1]
theorem sno_val {xs : List Int} {i : Nat} (hi : i < xs.length) (h : SNo xs i) (ii : Bool) (lv a b v : Nat) (F : List (Nat × Nat × Nat × Nat)) :
    run (xs.drop (i + 1)) (i + 1) 5 false ii lv a b v F = (F, true) := by
  rw [str_val ii lv a b v F (xs.length - (i + 1)) (by omega) (fun j hj => h j (by omega)), show i + 1 + (xs.length - (i + 1)) = xs.length by omega, List.drop_length]
  rfl

/-- The automaton inside a string (state 6): up to place d. -/
theorem str_nest {xs : List Int} {i : Nat} (ii : Bool) (lv a b v : Nat) (F : List (Nat × Nat × Nat × Nat)) : ∀ d, i + 1 + d ≤ xs.length → (∀ j, j < d → shuts xs i j = false) →
    run (xs.drop (i + 1)) (i + 1) 6 false true lv a b v F = run (xs.drop (i + 1 + d)) (i + 1 + d) 6 (esc xs i d) true lv a b v F
  | 0, _, _ => rfl
  | d + 1, h, hno => by
    rw [str_nest ii lv a b v F d (by omega) (fun j hj => hno j (by omega)), drop_at (show i + 1 + d < xs.length by omega), run_6s]
    have hd := hno d (by omega)
    have e1 : esc xs i (d + 1) = if esc xs i d then false else xs.getD (i + 1 + d) 0 == 92 := rfl
    rw [show i + 1 + (d + 1) = i + 1 + d + 1 by omega, e1]
    by_cases he : esc xs i d = true
    · rw [if_pos he, if_pos he]
    · rw [if_neg he, if_neg he]
      have he' : esc xs i d = false := by simpa using he
      by_cases h92 : xs.getD (i + 1 + d) 0 = 92
      · rw [if_pos h92, h92]; rfl
      · rw [if_neg h92]
        have h34 : xs.getD (i + 1 + d) 0 ≠ 34 := by
          intro h34; rw [shuts, h34, he'] at hd; exact absurd hd (by decide)
        rw [if_neg h34, he']
        have : (xs.getD (i + 1 + d) 0 == 92) = false := by simpa using h92
        rw [this]
theorem send_nest {xs : List Int} {i r : Nat} (h : SEnd xs i r) (ii : Bool) (lv a b v : Nat) (F : List (Nat × Nat × Nat × Nat)) :
    run (xs.drop (i + 1)) (i + 1) 6 false true lv a b v F = run (xs.drop r) (r) 6 false false lv a b v F := by
  obtain ⟨d, rfl, hr, hs, hno⟩ := h.at'
  rw [str_nest ii lv a b v F d (by omega) hno, drop_at (show i + 1 + d < xs.length by omega), run_6s]
  simp only [shuts, Bool.and_eq_true, beq_iff_eq, Bool.not_eq_true'] at hs
  rw [hs.2, if_neg (by simp), if_neg (by rw [hs.1]; decide), if_pos hs.1]
theorem sno_nest {xs : List Int} {i : Nat} (hi : i < xs.length) (h : SNo xs i) (ii : Bool) (lv a b v : Nat) (F : List (Nat × Nat × Nat × Nat)) :
    run (xs.drop (i + 1)) (i + 1) 6 false true lv a b v F = (F, true) := by
  rw [str_nest ii lv a b v F (xs.length - (i + 1)) (by omega) (fun j hj => h j (by omega)), show i + 1 + (xs.length - (i + 1)) = xs.length by omega, List.drop_length]
  rfl

end Go.Proofs.Qxb6608652aDoor
