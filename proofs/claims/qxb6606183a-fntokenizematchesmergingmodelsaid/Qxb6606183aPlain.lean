import Derived.Lib.Strings
import Derived.Lib.IndexAny
import Derived.Lib.IndexBytes
namespace Go.Proofs.Qxb6606183a
set_option linter.unusedVariables false
set_option linter.unusedSimpArgs false

/-- A space, by the text of tokenize. -/
def isSp (c : UInt8) : Bool := [32, 9, 10, 13, 11, 12].contains c
/-- A byte that ends a word. -/
def isDl (c : UInt8) : Bool := [32, 9, 10, 13, 11, 12, 44, 40, 41, 61, 33].contains c
/-- How many bytes of a word stand at the head. -/
def wlen : List UInt8 → Nat
  | [] => 0
  | c :: l => if isDl c then 0 else wlen l + 1
/-- The kind and the length of the token that begins with c, l behind it; c is no space. -/
def hd (c : UInt8) (l : List UInt8) : Int × Nat :=
  if c = 61 ∧ l.head? = some 61 then (5, 2) else if c = 33 ∧ l.head? = some 61 then (6, 2)
  else if c = 61 then (5, 1) else if c = 33 then (7, 1) else if c = 44 then (2, 1) else if c = 40 then (3, 1) else if c = 41 then (4, 1) else (1, wlen l + 1)
/-- The tokens, with fuel. -/
def tokF : Nat → List UInt8 → List (Int × List UInt8)
  | 0, _ => []
  | _ + 1, [] => []
  | f + 1, c :: l => if isSp c then tokF f l else ((hd c l).1, (c :: l).take (hd c l).2) :: tokF f ((c :: l).drop (hd c l).2)
def tok (l : List UInt8) : List (Int × List UInt8) := tokF l.length l

theorem wlen_le : ∀ l : List UInt8, wlen l ≤ l.length
  | [] => Nat.le_refl _
  | c :: l => by
    have := wlen_le l
    simp only [wlen, List.length_cons]
    split <;> omega

theorem hd_pos (c : UInt8) (l : List UInt8) : 1 ≤ (hd c l).2 := by
  unfold hd
  repeat' split
  all_goals simp

theorem head_some {l : List UInt8} (h : l.head? = some 61) : 1 ≤ l.length := by cases l <;> simp at h ⊢

theorem hd_le (c : UInt8) (l : List UInt8) : (hd c l).2 ≤ l.length + 1 := by
  have := wlen_le l
  unfold hd
  split
  · rename_i h; have := head_some h.2; simp; omega
  · split
    · rename_i h; have := head_some h.2; simp; omega
    · repeat' split
      all_goals simp
      all_goals omega

theorem tokF_fuel : ∀ (f g : Nat) (l : List UInt8), l.length ≤ f → l.length ≤ g → tokF f l = tokF g l
  | 0, g, l, hf, hg => by
    have : l = [] := List.eq_nil_of_length_eq_zero (by omega)
    subst this
    cases g <;> rfl
  | f + 1, 0, l, hf, hg => by
    have : l = [] := List.eq_nil_of_length_eq_zero (by omega)
    subst this
    rfl
  | f + 1, g + 1, [], hf, hg => rfl
  | f + 1, g + 1, c :: l, hf, hg => by
    simp only [List.length_cons] at hf hg
    simp only [tokF]
    split
    · exact tokF_fuel f g l (by omega) (by omega)
    · have := hd_pos c l
      rw [tokF_fuel f g _ (by simp; omega) (by simp; omega)]

theorem tok_nil : tok [] = [] := rfl
theorem tok_sp {c : UInt8} {l : List UInt8} (h : isSp c = true) : tok (c :: l) = tok l := by
  simp only [tok, List.length_cons, tokF, h, if_true]
theorem tok_cons {c : UInt8} {l : List UInt8} (h : isSp c = false) : tok (c :: l) = ((hd c l).1, (c :: l).take (hd c l).2) :: tok ((c :: l).drop (hd c l).2) := by
  have hp := hd_pos c l
  simp only [tok, List.length_cons, tokF, h, Bool.false_eq_true, if_false]
  rw [tokF_fuel l.length _ _ (by simp; omega) (Nat.le_refl _)]

/-! ### A word's length, by places -/
theorem wlen_before : ∀ (l : List UInt8) (j : Nat), j < wlen l → ∃ c, l[j]? = some c ∧ isDl c = false
  | [], j, h => by simp [wlen] at h
  | c :: l, j, h => by
    simp only [wlen] at h
    split at h
    · omega
    · rename_i hc
      cases j with
      | zero => exact ⟨c, by simp, by simpa using hc⟩
      | succ j => simpa using wlen_before l j (by omega)
theorem wlen_stop : ∀ (l : List UInt8) (c : UInt8), l[wlen l]? = some c → isDl c = true
  | [], c, h => by simp at h
  | d :: l, c, h => by
    simp only [wlen] at h
    split at h
    · rename_i hd; simp at h; subst h; exact hd
    · exact wlen_stop l c (by simpa using h)

/-! ### A space parts the tokens -/
theorem wlen_append (a b : List UInt8) : wlen (a ++ 32 :: b) = wlen a := by
  induction a with
  | nil => rfl
  | cons c l ih => simp only [List.cons_append, wlen, ih]

theorem head_append (a b : List UInt8) : ((a ++ 32 :: b).head? = some 61) ↔ a.head? = some 61 := by
  cases a with
  | nil => simp
  | cons c l => simp

theorem hd_append (c : UInt8) (a b : List UInt8) : hd c (a ++ 32 :: b) = hd c a := by
  unfold hd
  simp only [head_append, wlen_append]

theorem tok_append : ∀ (n : Nat) (a b : List UInt8), a.length ≤ n → tok (a ++ 32 :: b) = tok a ++ tok b
  | _, [], b, _ => by rw [List.nil_append, tok_sp (by decide), tok_nil, List.nil_append]
  | 0, c :: a, b, h => by simp at h
  | n + 1, c :: a, b, h => by
    simp only [List.length_cons] at h
    rw [List.cons_append]
    by_cases hs : isSp c = true
    · rw [tok_sp hs, tok_sp hs, tok_append n a b (by omega)]
    · have hs' : isSp c = false := by simpa using hs
      have hp := hd_pos c a
      have hl := hd_le c a
      rw [tok_cons hs', tok_cons hs', hd_append, List.cons_append]
      have e1 : (c :: (a ++ 32 :: b)).take (hd c a).2 = (c :: a).take (hd c a).2 := by
        rw [← List.cons_append, List.take_append_of_le_length (by simpa using hl)]
      have e2 : (c :: (a ++ 32 :: b)).drop (hd c a).2 = (c :: a).drop (hd c a).2 ++ 32 :: b := by
        rw [← List.cons_append, List.drop_append_of_le_length (by simpa using hl)]
      rw [e1, e2, tok_append n _ b (by simp; omega)]

end Go.Proofs.Qxb6606183a
