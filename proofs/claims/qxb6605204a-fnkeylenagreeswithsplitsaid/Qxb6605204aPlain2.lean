import Derived.Test.Qxb6605204aPlain
namespace Go.Proofs.Qxb6605204a
set_option linter.unusedVariables false
set_option linter.unusedSimpArgs false

/-- The place of the first TAB, or the length. -/
def tb : List Int → Nat
  | [] => 0
  | x :: l => if x == 9 then 0 else tb l + 1

theorem tb_le : ∀ xs : List Int, tb xs ≤ xs.length
  | [] => Nat.le_refl _
  | x :: l => by
    have := tb_le l
    simp only [tb, List.length_cons]
    split <;> omega

theorem tb_before : ∀ (xs : List Int) (i : Nat), i < tb xs → xs.getD i 0 ≠ 9
  | [], i, h => by simp [tb] at h
  | x :: l, i, h => by
    simp only [tb] at h
    split at h
    · omega
    · rename_i hs
      cases i with
      | zero => simpa using hs
      | succ i => simpa using tb_before l i (by omega)

theorem tb_at : ∀ (xs : List Int), tb xs < xs.length → xs.getD (tb xs) 0 = 9
  | [], h => by simp at h
  | x :: l, h => by
    simp only [tb, List.length_cons] at h ⊢
    split
    · rename_i hs; simpa using hs
    · rename_i hs
      rw [if_neg hs] at h
      simpa using tb_at l (by omega)

theorem tb_eq : ∀ (xs : List Int) (m : Nat), m ≤ xs.length → (∀ i, i < m → xs.getD i 0 ≠ 9) → (m < xs.length → xs.getD m 0 = 9) → tb xs = m
  | [], m, h, _, _ => by simp at h; simp [tb, h]
  | x :: l, m, h, h1, h2 => by
    cases m with
    | zero =>
      have := h2 (by simp)
      simp only [List.getD_cons_zero] at this
      simp [tb, this]
    | succ m =>
      have h0 := h1 0 (by omega)
      simp only [List.getD_cons_zero] at h0
      have h0' : (x == 9) = false := by simpa using h0
      simp only [tb, h0', Bool.false_eq_true, if_false]
      rw [tb_eq l m (by simpa using h) (fun i hi => by simpa using h1 (i + 1) (by omega)) (fun hm => by simpa using h2 (by simpa using hm))]

/-- The length without one ending LF. -/
def tm (xs : List Int) : Nat := if 0 < xs.length ∧ xs.getD (xs.length - 1) 0 = 10 then xs.length - 1 else xs.length

theorem tm_le (xs : List Int) : tm xs ≤ xs.length := by unfold tm; split <;> omega
theorem tm_zero {xs : List Int} (h : xs.length = 0) : tm xs = 0 := by unfold tm; rw [if_neg (by omega)]; exact h
theorem tm_yes {xs : List Int} {n : Nat} (h : xs.length = n + 1) (hl : xs.getD n 0 = 10) : tm xs = n := by
  unfold tm; rw [h, if_pos ⟨by omega, by simpa using hl⟩]; omega
theorem tm_no {xs : List Int} {n : Nat} (h : xs.length = n + 1) (hl : xs.getD n 0 ≠ 10) : tm xs = n + 1 := by
  unfold tm; rw [h, if_neg (fun hh => hl (by simpa using hh.2))]

theorem getD_drop {xs : List Int} {i j : Nat} : (xs.drop j).getD i 0 = xs.getD (j + i) 0 := by
  simp [List.getD]

end Go.Proofs.Qxb6605204a
