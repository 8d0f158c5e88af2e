import Derived.Test.Qxb6608652aDoorStr
import Derived.Test.Qxb6608652aDoorPlain2
namespace Go.Proofs.Qxb6608652aDoor
set_option linter.unusedVariables false
set_option linter.unusedSimpArgs false
open Go.ChangeShapes Go.WideShapes Go.ChangeAt Go.RowKit

theorem fol_cases {z : Int} (h : fol z = true) : z = 32 ∨ z = 9 ∨ z = 13 ∨ z = 10 ∨ z = 44 ∨ z = 58 ∨ z = 93 ∨ z = 125 := by
  simpa [fol, ws, or_assoc] using h
theorem fol_not {z : Int} (h : fol z = false) : z ≠ 32 ∧ z ≠ 9 ∧ z ≠ 13 ∧ z ≠ 10 ∧ z ≠ 44 ∧ z ≠ 58 ∧ z ≠ 93 ∧ z ≠ 125 := by
  simpa [fol, ws, and_assoc] using h

set_option maxHeartbeats 1000000 in
/-- followsValue. -/
theorem follows_any (z : Int) (w : World) : Calls Tryd.prog 18 #[.int .u8 z] w fun e w' => e = .returned (.bool (fol z)) ∧ w' = w := by
  by_cases h : fol z = true
  · rw [h]
    rcases fol_cases h with rfl | rfl | rfl | rfl | rfl | rfl | rfl | rfl
    all_goals
      clear h
      go_enter Tryd.func18, Tryd.ntmps18
      go_wp2
      go_ret
      exact ⟨rfl, rfl⟩
  · have hf : fol z = false := by simpa using h
    rw [hf]
    obtain ⟨h1, h2, h3, h4, h5, h6, h7, h8⟩ := fol_not hf
    have e1 : (z == 32) = false := by simpa using h1
    have e2 : (z == 9) = false := by simpa using h2
    have e3 : (z == 13) = false := by simpa using h3
    have e4 : (z == 10) = false := by simpa using h4
    have e5 : (z == 44) = false := by simpa using h5
    have e6 : (z == 58) = false := by simpa using h6
    have e7 : (z == 93) = false := by simpa using h7
    have e8 : (z == 125) = false := by simpa using h8
    clear h hf h1 h2 h3 h4 h5 h6 h7 h8
    go_enter Tryd.func18, Tryd.ntmps18
    go_wp2
    go_ret
    exact ⟨rfl, rfl⟩

/-- How valueEnd ends. -/
def VPost (xs : List Int) (ea : Addr) (k : Nat) (w : World) (e : Ending) (w' : World) : Prop :=
  ((∃ (r : Nat) (d : Int), e = .returned (.tuple #[.int .i64 (r : Int), .int .i64 d, .nilIface]) ∧ VOk xs k r) ∨ (e = .returned (.tuple #[.int .i64 0, .int .i64 0, EM ea]) ∧ VErr xs k)) ∧ Below w.heap.size w w'

set_option maxHeartbeats 1000000 in
set_option maxRecDepth 100000 in
/-- valueEnd at a string. -/
theorem vend_str (b n k : Nat) (xs : List Int) (w : World) (ea : Addr) (hE : w.cell? ⟨0, 0, none⟩ = some (EM ea)) (hn : xs.length = n) (hk : k < n) (ht : Txt w b xs) (h34 : xs.getD k 0 = 34) :
    Calls Tryd.prog 16 #[.slice (some ⟨b, 0, none⟩) n n, .int .i64 (k : Int)] w (VPost xs ea k w) := by
  have hle := ht.len
  rw [hn] at hle
  have hc := ht.cell k (by omega)
  rw [h34] at hc
  have hS := send_any b n k xs w ea hE hn hk ht
  have H1 : Hid (k < xs.length) := by rw [hn]; exact hk
  have H2 : Hid _ := h34
  clear ht h34 hn
  go_enter Tryd.func16, Tryd.ntmps16
  go_wp2_with fail
  refine hS.mono ?_
  rintro e w1 ⟨h | ⟨rfl, hno⟩, hb⟩
  · obtain ⟨r, rfl, hs⟩ := h
    go_wp2_with fail
    go_ret3
    exact ⟨.inl ⟨r, 0, rfl, v_str_ok H1.out H2.out hs⟩, hb⟩
  · go_wp2_with fail
    go_ret3
    exact ⟨.inr ⟨rfl, v_str_no H1.out H2.out hno⟩, hb⟩

end Go.Proofs.Qxb6608652aDoor
