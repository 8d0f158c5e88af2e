import Derived.Test.Qxb6608652aDoorRows
import Derived.Test.Qxb6608652aDoorPlain
import Derived.WalkKit
import Derived.WalkSpells
import Derived.WalkLawsBesides
import Derived.ProofKit
import Derived.OpenShut
import Derived.Below
import Derived.Deep.OwnRows
import Derived.Deep.QuietTactic
import Derived.BigQuiet
import Derived.Lib.BytesEntry
import Derived.Lib.Walk
namespace Go.Proofs.Qxb6608652aDoor
set_option linter.unusedVariables false
set_option linter.unusedSimpArgs false
open Go.ChangeShapes Go.WideShapes Go.ChangeAt Go.RowKit

theorem below_draws {B : Nat} {a w : World} (h : Below B a w) (n : Nat) : Below B a (w.drewN n) := h.trans ⟨rfl, rfl, rfl, Nat.le_refl _, fun _ _ => rfl⟩

theorem cell_lt {w : World} {b o : Nat} {v : Value} (h : w.cell? ⟨b, o, none⟩ = some v) : b < w.heap.size := by
  by_cases hb : b < w.heap.size
  · exact hb
  · have hn : w.heap[b]? = none := Array.getElem?_eq_none (by omega)
    simp [World.cell?, hn] at h

/-- The text that is read: block b, bytes xs. -/
structure Txt (w : World) (b : Nat) (xs : List Int) : Prop where
  lt : b < w.heap.size
  rng : ∀ x ∈ xs, 0 ≤ x ∧ x < 256
  len : xs.length ≤ 1048576
  cell : ∀ i, i < xs.length → w.cell? ⟨b, i, none⟩ = some (.int .u8 (xs.getD i 0))

theorem Txt.mono {w w' : World} {b : Nat} {xs : List Int} (h : Txt w b xs) (hb : Below w.heap.size w w') : Txt w' b xs :=
  ⟨Nat.lt_of_lt_of_le h.lt hb.size, h.rng, h.len, fun i hi => by rw [hb.cell (p := ⟨b, i, none⟩) h.lt]; exact h.cell i hi⟩

set_option maxHeartbeats 1000000 in
/-- skipSpace. -/
theorem skip_any (b n k : Nat) (xs : List Int) (w : World) (hn : xs.length = n) (hk : k ≤ n) (ht : Txt w b xs) :
    Calls Tryd.prog 12 #[.slice (some ⟨b, 0, none⟩) n n, .int .i64 (k : Int)] w fun e w' => (∃ r : Nat, e = .returned (.int .i64 (r : Int)) ∧ Skip xs k r) ∧ w' = w := by
  have hle := ht.len
  rw [hn] at hle
  have HN : Hid (xs.length = n) := hn
  clear hn
  go_enter Tryd.func12, Tryd.ntmps12
  go_wp2_with fail
  go_loop [1] (fun i => ∃ r : Nat, i = .int .i64 r ∧ k ≤ r ∧ r ≤ n ∧ Hid (∀ j, k ≤ j → j < r → ws (xs.getD j 0) = true)) (fun i => n - (intOf i).toNat)
  case atStart => exact ⟨k, rfl, Nat.le_refl _, hk, fun j h1 h2 => absurd h2 (by omega)⟩
  case round =>
    obtain ⟨r, rfl, hkr, hrn, HW⟩ := hrel
    by_cases hlt : r < n
    · have hc := ht.cell r (by rw [HN.out]; exact hlt)
      by_cases hw : ws (xs.getD r 0) = true
      · have HW' : Hid (∀ j, k ≤ j → j < r + 1 → ws (xs.getD j 0) = true) := fun j h1 h2 => by
          rcases Nat.lt_or_eq_of_le (Nat.le_of_lt_succ h2) with h' | h'
          · exact HW.out j h1 h'
          · rw [h']; exact hw
        have hw4 : xs.getD r 0 = 32 ∨ xs.getD r 0 = 9 ∨ xs.getD r 0 = 13 ∨ xs.getD r 0 = 10 := by simpa [ws, or_assoc] using hw
        clear hw ht HW
        generalize xs.getD r 0 = z at *
        rcases hw4 with h | h | h | h
        all_goals
          subst h
          go_wp2
          go_round
          case rel => exact ⟨r + 1, by go_num, by omega, by omega, HW'⟩
          case measure => simp [intOf]; omega
      · have hwf : ws (xs.getD r 0) = false := by simpa using hw
        have HS : Hid (Skip xs k r) := ⟨hkr, by rw [HN.out]; exact hrn, HW.out, fun _ => hwf⟩
        have h4 : xs.getD r 0 ≠ 32 ∧ xs.getD r 0 ≠ 9 ∧ xs.getD r 0 ≠ 13 ∧ xs.getD r 0 ≠ 10 := by simpa [ws, and_assoc] using hwf
        have e1 : (xs.getD r 0 == 32) = false := by simpa using h4.1
        have e2 : (xs.getD r 0 == 9) = false := by simpa using h4.2.1
        have e3 : (xs.getD r 0 == 13) = false := by simpa using h4.2.2.1
        have e4 : (xs.getD r 0 == 10) = false := by simpa using h4.2.2.2
        clear hw hwf h4 ht HW
        generalize xs.getD r 0 = z at *
        go_wp2
        go_ret
        exact ⟨⟨r, rfl, HS.out⟩, rfl⟩
    · have HS : Hid (Skip xs k r) := ⟨hkr, by rw [HN.out]; exact hrn, HW.out, fun h => absurd h (by rw [HN.out]; exact hlt)⟩
      go_wp2
      go_ret
      exact ⟨⟨r, rfl, HS.out⟩, rfl⟩

end Go.Proofs.Qxb6608652aDoor
