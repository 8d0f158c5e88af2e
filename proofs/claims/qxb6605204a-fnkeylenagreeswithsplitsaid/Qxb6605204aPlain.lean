import Derived.Lib.Bytes
import Derived.Lib.IndexLaws
namespace Go.Proofs.Qxb6605204a
set_option linter.unusedVariables false
set_option linter.unusedSimpArgs false

/-- The byte ends a key: TAB or LF. -/
def stop (x : Int) : Bool := x == 9 || x == 10
/-- How many bytes at the head are no TAB and no LF. -/
def kl : List Int → Nat
  | [] => 0
  | x :: l => if stop x then 0 else kl l + 1

theorem kl_le : ∀ xs : List Int, kl xs ≤ xs.length
  | [] => Nat.le_refl _
  | x :: l => by
    have := kl_le l
    simp only [kl, List.length_cons]
    split <;> omega

theorem kl_before : ∀ (xs : List Int) (i : Nat), i < kl xs → stop (xs.getD i 0) = false
  | [], i, h => by simp [kl] at h
  | x :: l, i, h => by
    simp only [kl] at h
    split at h
    · omega
    · rename_i hs
      cases i with
      | zero => simpa using hs
      | succ i => simpa using kl_before l i (by omega)

theorem kl_at : ∀ (xs : List Int), kl xs < xs.length → stop (xs.getD (kl xs) 0) = true
  | [], h => by simp at h
  | x :: l, h => by
    simp only [kl, List.length_cons] at h ⊢
    split
    · rename_i hs; simpa using hs
    · rename_i hs
      rw [if_neg hs] at h
      simpa using kl_at l (by omega)

theorem kl_eq : ∀ (xs : List Int) (m : Nat), m ≤ xs.length → (∀ i, i < m → stop (xs.getD i 0) = false) → (m < xs.length → stop (xs.getD m 0) = true) → kl xs = m
  | [], m, h, _, _ => by simp at h; simp [kl, h]
  | x :: l, m, h, h1, h2 => by
    cases m with
    | zero =>
      have := h2 (by simp)
      simp only [List.getD_cons_zero] at this
      simp [kl, this]
    | succ m =>
      have h0 := h1 0 (by omega)
      simp only [List.getD_cons_zero] at h0
      simp only [kl, h0, Bool.false_eq_true, if_false]
      rw [kl_eq l m (by simpa using h) (fun i hi => by simpa using h1 (i + 1) (by omega)) (fun hm => by simpa using h2 (by simpa using hm))]

theorem kl_append : ∀ a c : List Int, kl (a ++ c) = if kl a < a.length then kl a else a.length + kl c
  | [], c => by simp [kl]
  | x :: l, c => by
    have ih := kl_append l c
    have hle := kl_le l
    simp only [List.cons_append, kl, List.length_cons]
    by_cases hs : stop x = true
    · simp [hs]
    · simp only [hs, if_false, Bool.false_eq_true]
      rw [ih]
      by_cases h : kl l < l.length
      · rw [if_pos h, if_pos (by omega)]
      · rw [if_neg h, if_neg (by omega)]; omega

theorem bytesOf_get (xs : List Int) (k : Nat) : (Lib.bytesOf xs)[k]? = (xs[k]?).map fun n => UInt8.ofNat n.toNat := by simp [Lib.bytesOf]

theorem u8_eq {a b : Int} (ha : 0 ≤ a ∧ a < 256) (hb : 0 ≤ b ∧ b < 256) : UInt8.ofNat a.toNat = UInt8.ofNat b.toNat ↔ a = b := by
  constructor
  · intro h
    have := congrArg UInt8.toNat h
    simp at this
    omega
  · rintro rfl; rfl

theorem getD_mem {xs : List Int} {i : Nat} (h : i < xs.length) : xs.getD i 0 ∈ xs := by
  simp [List.getD, h]

theorem ib_none {xs : List Int} {d : Int} (hr : ∀ x ∈ xs, 0 ≤ x ∧ x < 256) (hd : 0 ≤ d ∧ d < 256) (h : Lib.indexByte (Lib.bytesOf xs) (UInt8.ofNat d.toNat) = -1) : ∀ i, i < xs.length → xs.getD i 0 ≠ d := by
  intro i hi e
  refine Lib.indexByte_none h i ?_
  rw [bytesOf_get]
  have : xs[i]? = some d := by rw [← e]; simp [List.getD, hi]
  rw [this]; rfl

theorem ib_some {xs : List Int} {d : Int} {j : Nat} (hr : ∀ x ∈ xs, 0 ≤ x ∧ x < 256) (hd : 0 ≤ d ∧ d < 256) (h : Lib.indexByte (Lib.bytesOf xs) (UInt8.ofNat d.toNat) = (j : Int)) :
    j < xs.length ∧ xs.getD j 0 = d ∧ ∀ i, i < j → xs.getD i 0 ≠ d := by
  obtain ⟨h1, h2⟩ := Lib.indexByte_some h
  rw [bytesOf_get] at h1
  have hj : j < xs.length := by
    by_cases hj : j < xs.length
    · exact hj
    · rw [List.getElem?_eq_none (by omega)] at h1; simp at h1
  refine ⟨hj, ?_, fun i hi e => ?_⟩
  · have hg : xs[j]? = some (xs.getD j 0) := by simp [List.getD, hj]
    rw [hg] at h1
    simp only [Option.map_some, Option.some.injEq] at h1
    exact (u8_eq (hr _ (getD_mem hj)) hd).1 h1
  · refine h2 i hi ?_
    rw [bytesOf_get]
    have : xs[i]? = some d := by rw [← e]; simp [List.getD, show i < xs.length by omega]
    rw [this]; rfl

theorem ib_cases (xs : List Int) (d : Int) : Lib.indexByte (Lib.bytesOf xs) (UInt8.ofNat d.toNat) = -1 ∨ ∃ j : Nat, Lib.indexByte (Lib.bytesOf xs) (UInt8.ofNat d.toNat) = (j : Int) := by
  have := Lib.indexByte_ge (Lib.bytesOf xs) (UInt8.ofNat d.toNat)
  by_cases h : Lib.indexByte (Lib.bytesOf xs) (UInt8.ofNat d.toNat) = -1
  · exact .inl h
  · exact .inr ⟨(Lib.indexByte (Lib.bytesOf xs) (UInt8.ofNat d.toNat)).toNat, by omega⟩

theorem stop_false {x : Int} (h1 : x ≠ 9) (h2 : x ≠ 10) : stop x = false := by simp [stop, h1, h2]

theorem getD_take {xs : List Int} {i j : Nat} (h : i < j) : (xs.take j).getD i 0 = xs.getD i 0 := by
  simp [List.getD, List.getElem?_take, h]

/-- KeyLen's four ways. -/
theorem kl_none_none {xs : List Int} (h1 : ∀ i, i < xs.length → xs.getD i 0 ≠ 10) (h2 : ∀ i, i < xs.length → xs.getD i 0 ≠ 9) : kl xs = xs.length :=
  kl_eq xs _ (Nat.le_refl _) (fun i hi => stop_false (h2 i hi) (h1 i hi)) (fun h => absurd h (Nat.lt_irrefl _))
theorem kl_none_some {xs : List Int} {t : Nat} (h1 : ∀ i, i < xs.length → xs.getD i 0 ≠ 10) (ht : t < xs.length) (h2 : xs.getD t 0 = 9) (h3 : ∀ i, i < t → xs.getD i 0 ≠ 9) : kl xs = t :=
  kl_eq xs _ (by omega) (fun i hi => stop_false (h3 i hi) (h1 i (by omega))) (fun _ => by simp only [stop, h2]; rfl)
theorem kl_some_none {xs : List Int} {j : Nat} (hj : j < xs.length) (h1 : xs.getD j 0 = 10) (h2 : ∀ i, i < j → xs.getD i 0 ≠ 10) (h3 : ∀ i, i < (xs.take j).length → (xs.take j).getD i 0 ≠ 9) : kl xs = j :=
  kl_eq xs _ (by omega) (fun i hi => stop_false (by have := h3 i (by simp; omega); rwa [getD_take hi] at this) (h2 i hi)) (fun _ => by simp only [stop, h1]; rfl)
theorem kl_some_some {xs : List Int} {j t : Nat} (hj : j < xs.length) (h2 : ∀ i, i < j → xs.getD i 0 ≠ 10) (ht : t < (xs.take j).length) (h3 : (xs.take j).getD t 0 = 9) (h4 : ∀ i, i < t → (xs.take j).getD i 0 ≠ 9) : kl xs = t := by
  have htj : t < j := by simp at ht; omega
  rw [getD_take htj] at h3
  exact kl_eq xs _ (by omega) (fun i hi => stop_false (by have := h4 i hi; rwa [getD_take (by omega)] at this) (h2 i (by omega))) (fun _ => by simp only [stop, h3]; rfl)

end Go.Proofs.Qxb6605204a
