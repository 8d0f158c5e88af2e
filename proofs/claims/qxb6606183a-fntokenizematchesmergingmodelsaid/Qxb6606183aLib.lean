import Derived.Test.Qxb6606183aRows
import Derived.Test.Qxb6606183aPlain
import Derived.WalkKit
import Derived.WalkSpells
import Derived.WalkLawsBesides
import Derived.ProofKit
import Derived.OpenShut
import Derived.ShutString
import Derived.Below
import Derived.Deep.QuietTactic
import Derived.BigQuiet
import Derived.Lib.Walk
namespace Go.Proofs.Qxb6606183a
set_option linter.unusedVariables false
set_option linter.unusedSimpArgs false
open Go.ChangeShapes Go.WideShapes Go.ChangeAt Go.RowKit

set_option maxHeartbeats 1000000 in
set_option maxRecDepth 100000 in
/-- internal/stringslite.IndexByte: the model's own entry below it. -/
theorem slite_ib (s : ByteArray) (c : Int) (w : World) :
    Calls Try.prog 26 #[.string s, .int .u8 c] w fun e w' => e = .returned (.int .i64 (Lib.indexByte s.data.toList c.toNat.toUInt8)) ∧ w' = w := by
  go_enter Try.func26, Try.ntmps26
  go_wp2
  rw [run_callFunc_extern Try.func28 (by kernel_rfl) (by kernel_rfl) (by kernel_rfl) (e := Extern.BytealgIndexByte.indexByte) (by kernel_rfl), Lib.run_indexByteString s c w]
  simp only [Result.andThen]
  rw [Oper.upon_value]
  go_wp2
  go_ret
  exact ⟨rfl, rfl⟩

set_option maxHeartbeats 400000 in
/-- strings.IndexByte. -/
theorem str_ib (s : ByteArray) (c : Int) (w : World) :
    Calls Try.prog 24 #[.string s, .int .u8 c] w fun e w' => e = .returned (.int .i64 (Lib.indexByte s.data.toList c.toNat.toUInt8)) ∧ w' = w := by
  have h := fun w => slite_ib s c w
  generalize Lib.indexByte s.data.toList c.toNat.toUInt8 = r at *
  go_enter Try.func24, Try.ntmps24
  go_wp2_with (go_at_call 26; refine (h _).mono ?_; rintro e w' ⟨rfl, rfl⟩)
  go_ret
  exact ⟨rfl, rfl⟩

theorem ib_yes {l : List UInt8} {c : UInt8} (h : l.contains c = true) : 0 ≤ Lib.indexByte l c := by
  rw [Lib.contains_iff_indexByte] at h; simpa using h
theorem ib_no {l : List UInt8} {c : UInt8} (h : l.contains c = false) : Lib.indexByte l c = -1 := by
  rw [Lib.contains_iff_indexByte] at h
  have := Lib.indexByte_ge l c
  simp at h; omega

/-- Is the byte among these? Yes: an index. -/
theorem among_yes (l : List UInt8) (c : UInt8) (w : World) (h : l.contains c = true) :
    Calls Try.prog 24 #[.string ⟨l.toArray⟩, .int .u8 (c.toNat : Int)] w fun e w' => (∃ i : Int, e = .returned (.int .i64 i) ∧ 0 ≤ i) ∧ w' = w := by
  refine (str_ib ⟨l.toArray⟩ _ w).mono ?_
  rintro e w' ⟨rfl, rfl⟩
  refine ⟨⟨_, rfl, ?_⟩, rfl⟩
  have e1 : ((c.toNat : Int)).toNat.toUInt8 = c := by simp
  rw [e1]
  exact ib_yes h
theorem among_no (l : List UInt8) (c : UInt8) (w : World) (h : l.contains c = false) :
    Calls Try.prog 24 #[.string ⟨l.toArray⟩, .int .u8 (c.toNat : Int)] w fun e w' => e = .returned (.int .i64 (-1)) ∧ w' = w := by
  refine (str_ib ⟨l.toArray⟩ _ w).mono ?_
  rintro e w' ⟨rfl, rfl⟩
  have e1 : ((c.toNat : Int)).toNat.toUInt8 = c := by simp
  rw [e1]
  exact ⟨by rw [ib_no h], rfl⟩

set_option maxHeartbeats 400000 in
theorem slite_hp_short (s p : ByteArray) (w : World) (h : s.size < p.size) :
    Calls Try.prog 27 #[.string s, .string p] w fun e w' => e = .returned (.bool false) ∧ w' = w := by
  go_enter Try.func27, Try.ntmps27
  go_wp2
  go_ret
  exact ⟨rfl, rfl⟩

set_option maxHeartbeats 400000 in
theorem slite_hp_long (s p : ByteArray) (w : World) (h : p.size ≤ s.size) :
    Calls Try.prog 27 #[.string s, .string p] w fun e w' => e = .returned (.bool ((s.extract 0 p.size).toList == p.toList)) ∧ w' = w := by
  go_enter Try.func27, Try.ntmps27
  go_wp2
  go_ret
  exact ⟨rfl, rfl⟩

end Go.Proofs.Qxb6606183a
