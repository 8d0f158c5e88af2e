import Derived.Test.Qxb6606183aPlain
namespace Go.Proofs.Qxb6606183a
set_option linter.unusedVariables false
set_option linter.unusedSimpArgs false

/-- A fact on every byte, by trying all. -/
theorem all_u8 {p : UInt8 → Bool} (h : ((List.range 256).all fun n => p (UInt8.ofNat n)) = true) (c : UInt8) : p c = true := by
  have := List.all_eq_true.1 h c.toNat (List.mem_range.2 c.toNat_lt)
  simpa using this

/-- The kind of a token of one byte. -/
def k1 (c : UInt8) : Int := if c = 61 then 5 else if c = 33 then 7 else if c = 44 then 2 else if c = 40 then 3 else if c = 41 then 4 else 1

theorem sp_dl {c : UInt8} (h : isSp c = true) : isDl c = true := by
  have := all_u8 (p := fun c => !isSp c || isDl c) (by decide +kernel) c
  simpa [h] using this
theorem sp_ne61 {c : UInt8} (h : isSp c = true) : c ≠ 61 := by rintro rfl; exact absurd h (by decide)
/-- A byte that is no space and ends a word is one of five. -/
theorem dl_cases {c : UInt8} (h : isSp c = false) (hd : isDl c = true) : c = 61 ∨ c = 33 ∨ c = 44 ∨ c = 40 ∨ c = 41 := by
  have := all_u8 (p := fun c => isSp c || !isDl c || c == 61 || c == 33 || c == 44 || c == 40 || c == 41) (by decide +kernel) c
  simpa [h, hd, or_assoc] using this
theorem nd_ne {c : UInt8} (h : isDl c = false) : c ≠ 61 ∧ c ≠ 33 ∧ c ≠ 44 ∧ c ≠ 40 ∧ c ≠ 41 := by
  refine ⟨?_, ?_, ?_, ?_, ?_⟩ <;> (rintro rfl; exact absurd h (by decide))
theorem nd_sp {c : UInt8} (h : isDl c = false) : isSp c = false := by
  cases hs : isSp c with
  | false => rfl
  | true => rw [sp_dl hs] at h; exact h
theorem k1_word {c : UInt8} (h : isDl c = false) : k1 c = 1 := by
  obtain ⟨h1, h2, h3, h4, h5⟩ := nd_ne h
  simp [k1, h1, h2, h3, h4, h5]

theorem tok_one {c : UInt8} (h : isSp c = false) : tok [c] = [(k1 c, [c])] := by
  rw [tok_cons h]
  have e : hd c [] = (k1 c, 1) := by
    unfold hd k1
    simp only [List.head?_nil, reduceCtorEq, and_false, if_false, wlen]
    repeat' split
    all_goals rfl
  rw [e]
  rfl

/-! ### A space parts the tokens, whichever space -/
theorem wlen_sp (a b : List UInt8) {c : UInt8} (h : isSp c = true) : wlen (a ++ c :: b) = wlen a := by
  induction a with
  | nil => simp [wlen, sp_dl h]
  | cons d l ih => simp only [List.cons_append, wlen, ih]
theorem head_sp (a b : List UInt8) {c : UInt8} (h : isSp c = true) : ((a ++ c :: b).head? = some 61) ↔ a.head? = some 61 := by
  cases a with
  | nil => simp [sp_ne61 h]
  | cons d l => simp
theorem hd_sp (x : UInt8) (a b : List UInt8) {c : UInt8} (h : isSp c = true) : hd x (a ++ c :: b) = hd x a := by
  unfold hd
  simp only [head_sp a b h, wlen_sp a b h]
theorem tok_append_sp {c : UInt8} (hc : isSp c = true) : ∀ (n : Nat) (a b : List UInt8), a.length ≤ n → tok (a ++ c :: b) = tok a ++ tok b
  | _, [], b, _ => by rw [List.nil_append, tok_sp hc, tok_nil, List.nil_append]
  | 0, x :: a, b, h => by simp at h
  | n + 1, x :: a, b, h => by
    simp only [List.length_cons] at h
    rw [List.cons_append]
    by_cases hs : isSp x = true
    · rw [tok_sp hs, tok_sp hs, tok_append_sp hc n a b (by omega)]
    · have hs' : isSp x = false := by simpa using hs
      have hp := hd_pos x a
      have hl := hd_le x a
      rw [tok_cons hs', tok_cons hs', hd_sp x a b hc, List.cons_append]
      have e1 : (x :: (a ++ c :: b)).take (hd x a).2 = (x :: a).take (hd x a).2 := by
        rw [← List.cons_append, List.take_append_of_le_length (by simpa using hl)]
      have e2 : (x :: (a ++ c :: b)).drop (hd x a).2 = (x :: a).drop (hd x a).2 ++ c :: b := by
        rw [← List.cons_append, List.drop_append_of_le_length (by simpa using hl)]
      rw [e1, e2, tok_append_sp hc n _ b (by simp; omega)]

/-! ### One byte more -/
/-- Does the text end in a byte that is no space? -/
def touch (m : List UInt8) : Bool := match m.getLast? with | some c => !isSp c | none => false
theorem touch_snoc (m : List UInt8) (c : UInt8) : touch (m ++ [c]) = !isSp c := by simp [touch]
theorem touch_cons {m : List UInt8} (c : UInt8) (h : m ≠ []) : touch (c :: m) = touch m := by
  unfold touch
  rw [List.getLast?_cons]
  cases hm : m.getLast? with
  | none => exact absurd (List.getLast?_eq_none_iff.1 hm) h
  | some d => rfl
theorem touch_nil : touch [] = false := rfl

/-- The last token grown by one byte, where it merges. -/
def extTok (t : Int × List UInt8) (c : UInt8) : Option (Int × List UInt8) :=
  if isDl c = false ∧ t.1 = 1 then some (1, t.2 ++ [c]) else if c = 61 ∧ t.2.length = 1 ∧ t.1 = 7 then some (6, t.2 ++ [c])
  else if c = 61 ∧ t.2.length = 1 ∧ t.1 = 5 then some (5, t.2 ++ [c]) else none
/-- The last token, with the byte behind it. -/
def ext1 (t : Int × List UInt8) (c : UInt8) : List (Int × List UInt8) := match extTok t c with | some u => [u] | none => [t, (k1 c, [c])]
def ext : List (Int × List UInt8) → UInt8 → List (Int × List UInt8)
  | [], c => [(k1 c, [c])]
  | [t], c => ext1 t c
  | t :: u :: T, c => t :: ext (u :: T) c
theorem ext_cons {T : List (Int × List UInt8)} (t : Int × List UInt8) (c : UInt8) (h : T ≠ []) : ext (t :: T) c = t :: ext T c := by
  cases T with
  | nil => exact absurd rfl h
  | cons u T => rfl
theorem ext_snoc (T : List (Int × List UInt8)) (t : Int × List UInt8) (c : UInt8) : ext (T ++ [t]) c = T ++ ext1 t c := by
  induction T with
  | nil => rfl
  | cons u T ih => rw [List.cons_append, ext_cons _ _ (by simp), ih]; rfl

theorem tok_ne : ∀ (m : List UInt8), touch m = true → tok m ≠ []
  | [], h => by simp [touch_nil] at h
  | c :: m, h => by
    by_cases hs : isSp c = true
    · have hm : m ≠ [] := by rintro rfl; simp [touch, hs] at h
      rw [tok_sp hs]
      rw [touch_cons c hm] at h
      exact tok_ne m h
    · rw [tok_cons (by simpa using hs)]; simp

theorem wlen_snoc (m : List UInt8) (c : UInt8) : wlen (m ++ [c]) = if wlen m = m.length then (if isDl c then m.length else m.length + 1) else wlen m := by
  induction m with
  | nil => simp [wlen]
  | cons d m ih =>
    have hle := wlen_le m
    simp only [List.cons_append, wlen, List.length_cons]
    by_cases hd : isDl d = true
    · simp [hd]
    · simp only [hd, Bool.false_eq_true, if_false, ih]
      by_cases hw : wlen m = m.length
      · simp only [hw, if_true]; split <;> rfl
      · simp [hw]

theorem head_snoc {m : List UInt8} (c : UInt8) (h : m ≠ []) : (m ++ [c]).head? = m.head? := by
  cases m with
  | nil => exact absurd rfl h
  | cons d m => rfl

theorem hd_snoc (x : UInt8) {m : List UInt8} (c : UInt8) (hm : m ≠ []) (h : (hd x m).2 < m.length + 1) : hd x (m ++ [c]) = hd x m := by
  unfold hd at h ⊢
  rw [head_snoc c hm]
  by_cases g1 : x = 61 ∧ m.head? = some 61
  · rw [if_pos g1, if_pos g1]
  rw [if_neg g1] at h ⊢
  rw [if_neg g1]
  by_cases g2 : x = 33 ∧ m.head? = some 61
  · rw [if_pos g2, if_pos g2]
  rw [if_neg g2] at h ⊢
  rw [if_neg g2]
  by_cases g3 : x = 61
  · rw [if_pos g3, if_pos g3]
  rw [if_neg g3] at h ⊢
  rw [if_neg g3]
  by_cases g4 : x = 33
  · rw [if_pos g4, if_pos g4]
  rw [if_neg g4] at h ⊢
  rw [if_neg g4]
  by_cases g5 : x = 44
  · rw [if_pos g5, if_pos g5]
  rw [if_neg g5] at h ⊢
  rw [if_neg g5]
  by_cases g6 : x = 40
  · rw [if_pos g6, if_pos g6]
  rw [if_neg g6] at h ⊢
  rw [if_neg g6]
  by_cases g7 : x = 41
  · rw [if_pos g7, if_pos g7]
  rw [if_neg g7] at h ⊢
  rw [if_neg g7]
  simp only at h
  rw [wlen_snoc, if_neg (by omega)]

theorem touch_drop : ∀ (n : Nat) (m : List UInt8), n < m.length → touch (m.drop n) = touch m
  | 0, m, _ => rfl
  | n + 1, [], h => by simp at h
  | n + 1, c :: m, h => by
    simp only [List.length_cons] at h
    have hm : m ≠ [] := by rintro rfl; simp at h
    rw [List.drop_succ_cons, touch_cons c hm, touch_drop n m (by omega)]

theorem tok_two {c d : UInt8} {kd : Int} (hs : isSp c = false) (hd' : isSp d = false) (h : hd c [d] = (kd, 1)) : tok [c, d] = [(kd, [c]), (k1 d, [d])] := by
  rw [tok_cons hs, h]
  show (kd, [c]) :: tok [d] = _
  rw [tok_one hd']

/-- A text that is one token, and a byte behind it. -/
theorem single_ext {x c : UInt8} {m : List UInt8} (hx : isSp x = false) (hc : isSp c = false) (h : (hd x m).2 = m.length + 1) : tok (x :: m ++ [c]) = ext1 ((hd x m).1, x :: m) c := by
  by_cases g1 : x = 61 ∧ m.head? = some 61
  · have e : hd x m = (5, 2) := by unfold hd; rw [if_pos g1]
    rw [e] at h ⊢
    obtain ⟨rfl, hh⟩ := g1
    match m, h, hh with
    | [d], _, hh =>
      obtain rfl : d = 61 := by simpa using hh
      have e2 : hd 61 [61, c] = (5, 2) := by unfold hd; rw [if_pos (by simp)]
      show tok [61, 61, c] = _
      rw [tok_cons (by decide), e2]
      show (5, [61, 61]) :: tok [c] = _
      rw [tok_one hc]
      simp [ext1, extTok]
  by_cases g2 : x = 33 ∧ m.head? = some 61
  · have e : hd x m = (6, 2) := by unfold hd; rw [if_neg g1, if_pos g2]
    rw [e] at h ⊢
    obtain ⟨rfl, hh⟩ := g2
    match m, h, hh with
    | [d], _, hh =>
      obtain rfl : d = 61 := by simpa using hh
      have e2 : hd 33 [61, c] = (6, 2) := by unfold hd; rw [if_neg (by simp), if_pos (by simp)]
      show tok [33, 61, c] = _
      rw [tok_cons (by decide), e2]
      show (6, [33, 61]) :: tok [c] = _
      rw [tok_one hc]
      simp [ext1, extTok]
  by_cases g3 : x = 61
  · have e : hd x m = (5, 1) := by unfold hd; rw [if_neg g1, if_neg g2, if_pos g3]
    rw [e] at h ⊢
    subst g3
    obtain rfl : m = [] := List.eq_nil_of_length_eq_zero (by change 1 = m.length + 1 at h; omega)
    show tok [61, c] = _
    by_cases hc1 : c = 61
    · subst hc1; decide
    · rw [tok_two (by decide) hc (show hd 61 [c] = (5, 1) by unfold hd; rw [if_neg (by simp [hc1]), if_neg (by simp), if_pos rfl])]
      simp [ext1, extTok, hc1]
  by_cases g4 : x = 33
  · have e : hd x m = (7, 1) := by unfold hd; rw [if_neg g1, if_neg g2, if_neg g3, if_pos g4]
    rw [e] at h ⊢
    subst g4
    obtain rfl : m = [] := List.eq_nil_of_length_eq_zero (by change 1 = m.length + 1 at h; omega)
    show tok [33, c] = _
    by_cases hc1 : c = 61
    · subst hc1; decide
    · rw [tok_two (by decide) hc (show hd 33 [c] = (7, 1) by unfold hd; rw [if_neg (by simp), if_neg (by simp [hc1]), if_neg (by decide), if_pos rfl])]
      simp [ext1, extTok, hc1]
  by_cases g5 : x = 44
  · have e : hd x m = (2, 1) := by unfold hd; rw [if_neg g1, if_neg g2, if_neg g3, if_neg g4, if_pos g5]
    rw [e] at h ⊢
    subst g5
    obtain rfl : m = [] := List.eq_nil_of_length_eq_zero (by change 1 = m.length + 1 at h; omega)
    show tok [44, c] = _
    rw [tok_two (by decide) hc (show hd 44 [c] = (2, 1) by unfold hd; rw [if_neg (by simp), if_neg (by simp), if_neg (by decide), if_neg (by decide), if_pos rfl])]
    simp [ext1, extTok]
  by_cases g6 : x = 40
  · have e : hd x m = (3, 1) := by unfold hd; rw [if_neg g1, if_neg g2, if_neg g3, if_neg g4, if_neg g5, if_pos g6]
    rw [e] at h ⊢
    subst g6
    obtain rfl : m = [] := List.eq_nil_of_length_eq_zero (by change 1 = m.length + 1 at h; omega)
    show tok [40, c] = _
    rw [tok_two (by decide) hc (show hd 40 [c] = (3, 1) by unfold hd; rw [if_neg (by simp), if_neg (by simp), if_neg (by decide), if_neg (by decide), if_neg (by decide), if_pos rfl])]
    simp [ext1, extTok]
  by_cases g7 : x = 41
  · have e : hd x m = (4, 1) := by unfold hd; rw [if_neg g1, if_neg g2, if_neg g3, if_neg g4, if_neg g5, if_neg g6, if_pos g7]
    rw [e] at h ⊢
    subst g7
    obtain rfl : m = [] := List.eq_nil_of_length_eq_zero (by change 1 = m.length + 1 at h; omega)
    show tok [41, c] = _
    rw [tok_two (by decide) hc (show hd 41 [c] = (4, 1) by unfold hd; rw [if_neg (by simp), if_neg (by simp), if_neg (by decide), if_neg (by decide), if_neg (by decide), if_neg (by decide), if_pos rfl])]
    simp [ext1, extTok]
  have e : ∀ k, hd x k = if (x = 61 ∧ k.head? = some 61) then (5, 2) else if (x = 33 ∧ k.head? = some 61) then (6, 2) else (1, wlen k + 1) := fun k => by
    unfold hd; rw [if_neg g3, if_neg g4, if_neg g5, if_neg g6, if_neg g7]
  have ew : ∀ k, hd x k = (1, wlen k + 1) := fun k => by rw [e k, if_neg (fun hh => g3 hh.1), if_neg (fun hh => g4 hh.1)]
  rw [ew] at h ⊢
  simp only at h
  have hw : wlen m = m.length := by omega
  rw [List.cons_append, tok_cons hx, ew, wlen_snoc, if_pos hw]
  by_cases hd : isDl c = true
  · simp only [hd, if_true]
    have e1 : (x :: (m ++ [c])).take (m.length + 1) = x :: m := by simp
    have e2 : (x :: (m ++ [c])).drop (m.length + 1) = [c] := by simp
    rw [e1, e2, tok_one hc]
    simp [ext1, extTok, hd]
  · have hd' : isDl c = false := by simpa using hd
    simp only [hd', Bool.false_eq_true, if_false]
    have e1 : (x :: (m ++ [c])).take (m.length + 1 + 1) = x :: (m ++ [c]) := List.take_of_length_le (by simp)
    have e2 : (x :: (m ++ [c])).drop (m.length + 1 + 1) = [] := List.drop_eq_nil_of_le (by simp)
    rw [e1, e2, tok_nil]
    simp [ext1, extTok, hd']

theorem touch_ext : ∀ (n : Nat) (m : List UInt8) (c : UInt8), m.length ≤ n → touch m = true → isSp c = false → tok (m ++ [c]) = ext (tok m) c
  | _, [], c, _, ht, _ => by simp [touch_nil] at ht
  | 0, x :: m, c, h, _, _ => by simp at h
  | n + 1, x :: m, c, h, ht, hc => by
    simp only [List.length_cons] at h
    by_cases hs : isSp x = true
    · have hm : m ≠ [] := by rintro rfl; simp [touch, hs] at ht
      rw [List.cons_append, tok_sp hs, tok_sp hs]
      rw [touch_cons x hm] at ht
      exact touch_ext n m c (by omega) ht hc
    · have hs' : isSp x = false := by simpa using hs
      have hp := hd_pos x m
      have hl := hd_le x m
      by_cases hlt : (hd x m).2 < m.length + 1
      · have hm : m ≠ [] := by rintro rfl; simp at hlt; omega
        rw [List.cons_append, tok_cons hs', tok_cons hs', hd_snoc x c hm hlt]
        have e1 : (x :: (m ++ [c])).take (hd x m).2 = (x :: m).take (hd x m).2 := by
          rw [← List.cons_append, List.take_append_of_le_length (by simpa using hl)]
        have e2 : (x :: (m ++ [c])).drop (hd x m).2 = (x :: m).drop (hd x m).2 ++ [c] := by
          rw [← List.cons_append, List.drop_append_of_le_length (by simpa using hl)]
        have ht' : touch ((x :: m).drop (hd x m).2) = true := by rw [touch_drop _ _ (by simpa using hlt)]; exact ht
        rw [e1, e2, touch_ext n _ c (by simp; omega) ht' hc, ext_cons _ _ (tok_ne _ ht')]
      · have he : (hd x m).2 = m.length + 1 := by omega
        rw [single_ext hs' hc he]
        have e3 : tok (x :: m) = [((hd x m).1, x :: m)] := by
          rw [tok_cons hs', he]
          rw [List.take_of_length_le (by simp), List.drop_eq_nil_of_le (by simp), tok_nil]
        rw [e3]
        rfl

/-- ONE BYTE MORE: no token touches. -/
theorem snoc_apart {m : List UInt8} {c : UInt8} (ht : touch m = false) (hc : isSp c = false) : tok (m ++ [c]) = tok m ++ [(k1 c, [c])] := by
  rcases List.eq_nil_or_concat m with rfl | ⟨m', d, rfl⟩
  · rw [List.nil_append, tok_one hc]; rfl
  · rw [List.concat_eq_append] at ht ⊢
    rw [touch_snoc] at ht
    have hd : isSp d = true := by simpa using ht
    have e : m' ++ [d] ++ [c] = m' ++ d :: [c] := by simp
    rw [e, tok_append_sp hd _ _ _ (Nat.le_refl _), tok_one hc, tok_append_sp hd _ _ _ (Nat.le_refl _), tok_nil, List.append_nil]
/-- ONE BYTE MORE: a space. -/
theorem snoc_sp {m : List UInt8} {c : UInt8} (hc : isSp c = true) : tok (m ++ [c]) = tok m := by
  rw [tok_append_sp hc _ _ _ (Nat.le_refl _), tok_nil, List.append_nil]

end Go.Proofs.Qxb6606183a
