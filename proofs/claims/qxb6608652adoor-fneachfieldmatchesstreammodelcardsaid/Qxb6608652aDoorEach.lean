import Derived.Test.Qxb6608652aDoorVis
import Derived.Test.Qxb6608652aDoorPlain3
namespace Go.Proofs.Qxb6608652aDoor
set_option linter.unusedVariables false
set_option linter.unusedSimpArgs false
open Go.ChangeShapes Go.WideShapes Go.ChangeAt Go.RowKit

/-- The gathered slices' elements. -/
def nameV (b : Nat) (F : List (Nat × Nat × Nat × Nat)) : List Value := F.map fun t => .slice (some ⟨b, t.1, none⟩) (t.2.1 - t.1) (t.2.1 - t.1)
def valV (b : Nat) (F : List (Nat × Nat × Nat × Nat)) : List Value := F.map fun t => .slice (some ⟨b, t.2.2.1, none⟩) (t.2.2.2 - t.2.2.1) (t.2.2.2 - t.2.2.1)
def textV (b : Nat) (F : List (Nat × Nat × Nat × Nat)) : List Value := F.map fun t => .slice (some ⟨b, t.1, none⟩) (t.2.2.2 - t.1) (t.2.2.2 - t.1)

/-- The three boxes hold the fields F. -/
def Gath (B b : Nat) (w : World) (F : List (Nat × Nat × Nat × Nat)) : Prop := ∃ v0 v1 v2, St B w v0 v1 v2 (nameV b F) (valV b F) (textV b F)

/-- How eachField ends. -/
def EPost (xs : List Int) (B b : Nat) (w : World) (e : Ending) (w' : World) : Prop :=
  (∃ F fl, total xs = (F, fl) ∧ Good xs.length F ∧ F.length ≤ xs.length ∧ Gath B b w' F ∧ ((fl = false ∧ e = .returned .nilIface) ∨ (fl = true ∧ ∃ t x, e = .returned (.iface t x)))) ∧ Below B w w'

set_option maxHeartbeats 400000 in
/-- errors.New. -/
theorem new_any (s : ByteArray) (w : World) : Calls Tryd.prog 13 #[.string s] w fun e w' => (∃ t x, e = .returned (.iface t x)) ∧ Below w.heap.size w w' := by
  go_enter Tryd.func13, Tryd.ntmps13
  go_wp2
  go_ret
  exact ⟨⟨_, _, rfl⟩, (Below.refl _ _).alloc (Nat.le_refl _) _⟩

theorem Gath.mono {B b : Nat} {w w' : World} {F : List (Nat × Nat × Nat × Nat)} (h : Gath B b w F) (hb : Below w.heap.size w w') : Gath B b w' F := by
  obtain ⟨v0, v1, v2, h⟩ := h
  have hg : w.grownBy w' none := ⟨hb.os, hb.tape, hb.output, hb.size, fun k hk _ => hb.block k hk⟩
  exact ⟨v0, v1, v2, by rw [hb.block _ (lt_of_some h.b0)]; exact h.b0, by rw [hb.block _ (lt_of_some h.b1)]; exact h.b1, by rw [hb.block _ (lt_of_some h.b2)]; exact h.b2,
    h.o0.kept hg (by cases v0.ownBlock <;> simp), h.o1.kept hg (by cases v1.ownBlock <;> simp), h.o2.kept hg (by cases v2.ownBlock <;> simp), h.a01, h.a02, h.a12, Nat.le_trans h.lt hb.size⟩

theorem Gath.lt {B b : Nat} {w : World} {F : List (Nat × Nat × Nat × Nat)} (h : Gath B b w F) : B + 3 ≤ w.heap.size := by
  obtain ⟨_, _, _, h⟩ := h
  exact h.lt

end Go.Proofs.Qxb6608652aDoor
