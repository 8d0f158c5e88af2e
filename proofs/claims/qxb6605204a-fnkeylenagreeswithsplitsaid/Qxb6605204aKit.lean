import Derived.Test.Qxb6605204aRows
import Derived.WalkKit
import Derived.WalkSpells
import Derived.ProofKit
import Derived.OpenShut
import Derived.Below
import Derived.Deep.OwnRows
namespace Go.Proofs.Qxb6605204a
set_option linter.unusedVariables false
set_option linter.unusedSimpArgs false
open Go.ChangeShapes Go.WideShapes Go.ChangeAt Go.RowKit

theorem Try.info5 : (Try.prog.info? 5).map (fun i => (i.zero, i.size, i.bytes)) = some (some (.int .u8 0), 1, 1) := by kernel_rfl

/-- A slice of bytes that can be read: its n bytes are xs. -/
structure Rd (w : World) (p : Option Addr) (n : Nat) (xs : List Int) : Prop where
  len : xs.length = n
  rng : ∀ x ∈ xs, 0 ≤ x ∧ x < 256
  spot : 0 < n → ∃ b o, p = some ⟨b, o, none⟩ ∧ b < w.heap.size ∧ ∀ i, i < n → w.cell? ⟨b, o + i, none⟩ = some (.int .u8 (xs.getD i 0))

theorem cell_lt {w : World} {b o : Nat} {v : Value} (h : w.cell? ⟨b, o, none⟩ = some v) : b < w.heap.size := by
  by_cases hb : b < w.heap.size
  · exact hb
  · have hn : w.heap[b]? = none := Array.getElem?_eq_none (by omega)
    simp [World.cell?, hn] at h

theorem Rd.mono {w w' : World} {p : Option Addr} {n : Nat} {xs : List Int} (h : Rd w p n xs) (hb : Below w.heap.size w w') : Rd w' p n xs := by
  refine ⟨h.len, h.rng, fun hn => ?_⟩
  obtain ⟨b, o, hp, hlt, hc⟩ := h.spot hn
  refine ⟨b, o, hp, Nat.lt_of_lt_of_le hlt hb.size, fun i hi => ?_⟩
  rw [hb.cell (p := ⟨b, o + i, none⟩) hlt]
  exact hc i hi

/-- What zzCopy does at the head of a round: k cells are copied. -/
def half (xs : List Int) (k : Nat) : Nat → Value := fun i => .int .u8 (if i < k then xs.getD i 0 else 0)

theorem half_step {w : World} {b n k : Nat} {xs : List Int} (h : w.rowIs b 5 n (half xs k)) : (w.setCell ⟨b, k, none⟩ (.int .u8 (xs.getD k 0))).rowIs b 5 n (half xs (k + 1)) := by
  refine (h.set k _).congr fun i _ => ?_
  by_cases e : i = k
  · subst e; simp [half]
  · simp only [if_neg e, half]
    by_cases hl : i < k
    · rw [if_pos hl, if_pos (by omega)]
    · rw [if_neg hl, if_neg (by omega)]

set_option maxHeartbeats 400000 in
theorem copy_at (b o n c : Nat) (xs : List Int) (w : World) (hn : n ≤ 1048576) (hc : ∀ i, i < n → w.cell? ⟨b, o + i, none⟩ = some (.int .u8 (xs.getD i 0))) :
    Calls Try.prog 9 #[.slice (some ⟨b, o, none⟩) n c] w fun e w' => e = .returned (.slice (some ⟨w.heap.size, 0, none⟩) n n) ∧ w'.heap.size = w.heap.size + 1 ∧ w'.rowIs w.heap.size 5 n (half xs n) ∧ Below w.heap.size w w' := by
  have hmk := fun w => run_make_row' (P := Try.prog) 22 5 (.int .u8 0) 1 Try.underlying22 Try.info5 rfl .i64 .i64 n (by omega) (by omega) w
  have q22 : ∀ (w : World) (a : Option Addr) (n c n' c' : Nat), (binOp .eql 22 (.slice a n c) (.slice none n' c')).run Try.prog w = .ok (.bool a.isNone) w := fun w a n c n' c' => Lib.run_eql_slice_nil w _ _ a n c n' c' Try.underlying22
  go_enter Try.func9, Try.ntmps9
  go_wp2
  go_loopw [4] (fun i wr => ∃ k : Nat, k ≤ n ∧ i = .int .i64 k ∧ wr.heap.size = w.heap.size + 1 ∧ wr.rowIs w.heap.size 5 n (half xs k) ∧ Below w.heap.size w wr) (fun i _ => n - (intOf i).toNat)
  case atStart => exact ⟨0, Nat.zero_le _, rfl, by simp, (World.rowIs_made w (.int .u8 0) n 5).congr (fun i _ => by simp [half]), (Below.refl _ _).alloc (Nat.le_refl _) _⟩
  case round =>
    obtain ⟨k, hk, rfl, hsz, hrow, hbel⟩ := hrel
    by_cases hlt : k < n
    · have h1 : wr.cell? ⟨b, o + k, none⟩ = some (.int .u8 (xs.getD k 0)) := by
        have hb := cell_lt (hc k hlt)
        rw [hbel.cell (p := ⟨b, o + k, none⟩) hb]
        exact hc k hlt
      have h2 := hrow.cell hlt
      have h3 := hrow.frozen k
      go_wp2
      go_roundw
      case rel => exact ⟨k + 1, by omega, by go_num, by simp [hsz], half_step hrow, hbel.setCell (Nat.le_refl _) _⟩
      case measure => simp [intOf]; omega
    · have hkn : k = n := by omega
      subst hkn
      go_wp2
      go_ret
      exact ⟨rfl, hsz, hrow, hbel⟩

end Go.Proofs.Qxb6605204a
