import Derived.Test.Qxb6605204aKit
namespace Go.Proofs.Qxb6605204a
set_option linter.unusedVariables false
set_option linter.unusedSimpArgs false
open Go.ChangeShapes Go.WideShapes Go.ChangeAt Go.RowKit

/-- What the shell tells of a slice of bytes that came in, as a reading. -/
theorem rd_of_row {w : World} {a : Option Addr} {len cap : Nat} {zs : List Int}
    (h : (a = none ∧ len = 0 ∧ cap = 0 ∧ zs = []) ∨
      ∃ x, a = some x ∧ len ≤ cap ∧ cap ≤ maxLen ∧ zs.length = cap ∧ (∀ i, i < zs.length → w.cell? (x.add i) = some (.int .u8 (zs.getD i 0))) ∧ ∀ n ∈ zs, (Lit.int .u8 n).wf = true) :
    Rd w a len (zs.take len) ∧ len ≤ cap ∧ cap ≤ maxLen ∧ (a = none → len = 0 ∧ cap = 0) := by
  rcases h with ⟨rfl, rfl, rfl, rfl⟩ | ⟨x, rfl, h1, h2, h3, h4, h5⟩
  · exact ⟨⟨by simp, by simp, fun h => absurd h (Nat.lt_irrefl _)⟩, Nat.le_refl _, Nat.zero_le _, fun _ => ⟨rfl, rfl⟩⟩
  · refine ⟨⟨by simp; omega, fun z hz => ?_, fun hn => ?_⟩, h1, h2, fun h => by cases h⟩
    · have := bounds_u8 (h5 z (List.mem_of_mem_take hz)); omega
    · obtain ⟨b, o, rfl, hc⟩ := ints_at h4 (by omega)
      refine ⟨b, o, rfl, cell_lt (hc 0 (by omega)), fun i hi => ?_⟩
      rw [hc i (by omega)]
      simp [List.getD, List.getElem?_take, hi]

/-- A slice of the law's own: nil, or at the head of a block from B on. -/
def Own (B : Nat) (w : World) (q : Option Addr) (n : Nat) (xs : List Int) : Prop :=
  (q = none ∧ n = 0 ∧ xs = []) ∨ ∃ b, q = some ⟨b, 0, none⟩ ∧ B ≤ b ∧ b < w.heap.size ∧ ∀ i, i < n → w.cell? ⟨b, i, none⟩ = some (.int .u8 (xs.getD i 0))

theorem Own.mono {B B' : Nat} {w w' : World} {q : Option Addr} {n : Nat} {xs : List Int} (h : Own B w q n xs) (hb : Below w.heap.size w w') (hB : B' ≤ B) : Own B' w' q n xs := by
  rcases h with h | ⟨b, hq, hb1, hb2, hc⟩
  · exact .inl h
  · exact .inr ⟨b, hq, by omega, Nat.lt_of_lt_of_le hb2 hb.size, fun i hi => by rw [hb.cell (p := ⟨b, i, none⟩) hb2]; exact hc i hi⟩

set_option maxHeartbeats 400000 in
/-- zzCopy of nil. -/
theorem copy_nil (w : World) : Calls Try.prog 9 #[.slice none 0 0] w fun e w' => e = .returned (.slice none 0 0) ∧ w' = w := by
  have q22 : ∀ (w : World) (a : Option Addr) (n c n' c' : Nat), (binOp .eql 22 (.slice a n c) (.slice none n' c')).run Try.prog w = .ok (.bool a.isNone) w := fun w a n c n' c' => Lib.run_eql_slice_nil w _ _ a n c n' c' Try.underlying22
  go_enter Try.func9, Try.ntmps9
  go_wp2
  go_ret
  exact ⟨rfl, rfl⟩

set_option maxHeartbeats 400000 in
/-- zzCopy of no byte, whatever the address. -/
theorem copy_zero (a : Addr) (c : Nat) (w : World) : Calls Try.prog 9 #[.slice (some a) 0 c] w fun e w' => e = .returned (.slice (some ⟨w.heap.size, 0, none⟩) 0 0) ∧ w'.heap.size = w.heap.size + 1 ∧ Below w.heap.size w w' := by
  have hmk := fun w => run_make_row' (P := Try.prog) 22 5 (.int .u8 0) 1 Try.underlying22 Try.info5 rfl .i64 .i64 0 (by omega) (by omega) w
  have q22 : ∀ (w : World) (a : Option Addr) (n c n' c' : Nat), (binOp .eql 22 (.slice a n c) (.slice none n' c')).run Try.prog w = .ok (.bool a.isNone) w := fun w a n c n' c' => Lib.run_eql_slice_nil w _ _ a n c n' c' Try.underlying22
  simp only [Int.natCast_zero] at hmk
  go_enter Try.func9, Try.ntmps9
  go_wp2
  refine wp_loop_rounds 1 ?_
  rw [rounds_succ]
  go_wp2
  go_ret
  exact ⟨rfl, by simp, (Below.refl _ _).alloc (Nat.le_refl _) _⟩

/-- zzCopy, whole. -/
theorem copy_any (p : Option Addr) (n c : Nat) (xs : List Int) (w : World) (h : Rd w p n xs) (hp : p = none → n = 0 ∧ c = 0) (hn : n ≤ 1048576) :
    Calls Try.prog 9 #[.slice p n c] w fun e w' => ∃ q, e = .returned (.slice q n n) ∧ Own w.heap.size w' q n xs ∧ Below w.heap.size w w' := by
  cases p with
  | none =>
    obtain ⟨rfl, rfl⟩ := hp rfl
    have hx : xs = [] := List.eq_nil_of_length_eq_zero h.len
    refine (copy_nil w).mono ?_
    rintro e w' ⟨rfl, hw⟩
    exact ⟨none, rfl, .inl ⟨rfl, rfl, hx⟩, by rw [hw]; exact Below.refl _ _⟩
  | some a =>
    rcases Nat.eq_zero_or_pos n with h0 | h0
    · subst h0
      refine (copy_zero a c w).mono ?_
      rintro e w' ⟨rfl, hs, hb⟩
      exact ⟨_, rfl, .inr ⟨w.heap.size, rfl, Nat.le_refl _, by omega, fun i hi => absurd hi (Nat.not_lt_zero _)⟩, hb⟩
    · obtain ⟨b, o, hpe, hlt, hc⟩ := h.spot h0
      cases hpe
      refine (copy_at b o n c xs w hn hc).mono ?_
      rintro e w' ⟨rfl, hs, hrow, hb⟩
      exact ⟨_, rfl, .inr ⟨w.heap.size, rfl, Nat.le_refl _, by omega, fun i hi => by rw [hrow.cell hi]; simp [half, hi]⟩, hb⟩

end Go.Proofs.Qxb6605204a
