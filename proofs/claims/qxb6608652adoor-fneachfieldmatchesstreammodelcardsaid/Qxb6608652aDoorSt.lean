import Derived.Test.Qxb6608652aDoorFld
import Derived.Test.Qxb6608652aDoorApp
import Derived.OneCell
namespace Go.Proofs.Qxb6608652aDoor
set_option linter.unusedVariables false
set_option linter.unusedSimpArgs false
open Go.ChangeShapes Go.WideShapes Go.ChangeAt Go.RowKit

theorem Tryd.info22 : (Tryd.prog.info? 22).map (fun i => (i.zero, i.size, i.bytes)) = some (some (.slice none 0 0), 1, 24) := by kernel_rfl

/-- The three gathered slices, each in its box. -/
structure St (B : Nat) (w : World) (v0 v1 v2 : Value) (us0 us1 us2 : List Value) : Prop where
  b0 : w.heap[B]? = some (.cells #[v0] 24 (0, 0))
  b1 : w.heap[B + 1]? = some (.cells #[v1] 24 (0, 0))
  b2 : w.heap[B + 2]? = some (.cells #[v2] 24 (0, 0))
  o0 : w.ownsRow (B + 3) 22 1 v0 us0.length us0
  o1 : w.ownsRow (B + 3) 22 1 v1 us1.length us1
  o2 : w.ownsRow (B + 3) 22 1 v2 us2.length us2
  a01 : Apart v0 v1
  a02 : Apart v0 v2
  a12 : Apart v1 v2
  lt : B + 3 ≤ w.heap.size

theorem heap_alloc_lt (w : World) (o : Obj) {k : Nat} (h : k < w.heap.size) : (w.alloc o).heap[k]? = w.heap[k]? := Below.heap_alloc _ _ _ h
theorem lt_of_some {w : World} {k : Nat} {o : Obj} (h : w.heap[k]? = some o) : k < w.heap.size := (Array.getElem?_eq_some_iff.1 h).1

theorem St.alloc {B : Nat} {w : World} {v0 v1 v2 : Value} {us0 us1 us2 : List Value} (h : St B w v0 v1 v2 us0 us1 us2) (o : Obj) : St B (w.alloc o) v0 v1 v2 us0 us1 us2 :=
  ⟨by rw [heap_alloc_lt _ _ (lt_of_some h.b0)]; exact h.b0, by rw [heap_alloc_lt _ _ (lt_of_some h.b1)]; exact h.b1, by rw [heap_alloc_lt _ _ (lt_of_some h.b2)]; exact h.b2, h.o0.alloc _, h.o1.alloc _, h.o2.alloc _, h.a01, h.a02, h.a12, by have := h.lt; simp; omega⟩

theorem own_len {w : World} {B e n m : Nat} {v : Value} {us : List Value} (h : w.ownsRow B e 1 v n us) (hm : us.length = m) : w.ownsRow B e 1 v m us := by
  have : n = m := by have := h.1; omega
  rw [← this]; exact h

/-- A block below the rows, behind an append. -/
theorem low_kept {w w1 : World} {B e n : Nat} {v : Value} {us : List Value} (ho : w.ownsRow (B + 3) e 1 v n us) (hg : w.grownBy w1 v.ownBlock) {k : Nat} (hk : k < w.heap.size) (hkB : k < B + 3) : w1.heap[k]? = w.heap[k]? :=
  hg.block k hk (fun e => by have := (ho.lt k e.symm).1; omega)

theorem St.step0 {B : Nat} {w w1 : World} {v0 v1 v2 v' s : Value} {us0 us1 us2 : List Value} (h : St B w v0 v1 v2 us0 us1 us2)
    (ho : w1.ownsRow (B + 3) 22 1 v' (us0.length + 1) (us0 ++ [s])) (hg : w.grownBy w1 v0.ownBlock) (hp : v'.ownBlock = v0.ownBlock ∨ v'.ownBlock = some w.heap.size) :
    St B (w1.setCell ⟨B, 0, none⟩ v') v' v1 v2 (us0 ++ [s]) us1 us2 := by
  have k0 : w1.heap[B]? = some (.cells #[v0] 24 (0, 0)) := by rw [low_kept h.o0 hg (lt_of_some h.b0) (by omega)]; exact h.b0
  have k1 : w1.heap[B + 1]? = some (.cells #[v1] 24 (0, 0)) := by rw [low_kept h.o0 hg (lt_of_some h.b1) (by omega)]; exact h.b1
  have k2 : w1.heap[B + 2]? = some (.cells #[v2] 24 (0, 0)) := by rw [low_kept h.o0 hg (lt_of_some h.b2) (by omega)]; exact h.b2
  exact ⟨by rw [heap_setCell_same w1 (B) 0 #[v0] 24 v' k0]; rfl, by rw [heap_setCell_other w1 ⟨B, 0, none⟩ (B + 1) v' (by show B + 1 ≠ B; omega)]; exact k1, by rw [heap_setCell_other w1 ⟨B, 0, none⟩ (B + 2) v' (by show B + 2 ≠ B; omega)]; exact k2, ownsRow_setCell_below (own_len ho (by simp)) (by show B < B + 3; omega) _, ownsRow_setCell_below (h.o1.kept hg (h.a01).ne) (by show B < B + 3; omega) _, ownsRow_setCell_below (h.o2.kept hg (h.a02).ne) (by show B < B + 3; omega) _, (h.a01).left h.o1 (Nat.le_refl _) hp, (h.a02).left h.o2 (Nat.le_refl _) hp, h.a12, by have := h.lt; have := hg.size; simp [World.setCell]; omega⟩

theorem St.step1 {B : Nat} {w w1 : World} {v0 v1 v2 v' s : Value} {us0 us1 us2 : List Value} (h : St B w v0 v1 v2 us0 us1 us2)
    (ho : w1.ownsRow (B + 3) 22 1 v' (us1.length + 1) (us1 ++ [s])) (hg : w.grownBy w1 v1.ownBlock) (hp : v'.ownBlock = v1.ownBlock ∨ v'.ownBlock = some w.heap.size) :
    St B (w1.setCell ⟨B + 1, 0, none⟩ v') v0 v' v2 us0 (us1 ++ [s]) us2 := by
  have k0 : w1.heap[B]? = some (.cells #[v0] 24 (0, 0)) := by rw [low_kept h.o1 hg (lt_of_some h.b0) (by omega)]; exact h.b0
  have k1 : w1.heap[B + 1]? = some (.cells #[v1] 24 (0, 0)) := by rw [low_kept h.o1 hg (lt_of_some h.b1) (by omega)]; exact h.b1
  have k2 : w1.heap[B + 2]? = some (.cells #[v2] 24 (0, 0)) := by rw [low_kept h.o1 hg (lt_of_some h.b2) (by omega)]; exact h.b2
  exact ⟨by rw [heap_setCell_other w1 ⟨B + 1, 0, none⟩ (B) v' (by show B ≠ B + 1; omega)]; exact k0, by rw [heap_setCell_same w1 (B + 1) 0 #[v1] 24 v' k1]; rfl, by rw [heap_setCell_other w1 ⟨B + 1, 0, none⟩ (B + 2) v' (by show B + 2 ≠ B + 1; omega)]; exact k2, ownsRow_setCell_below (h.o0.kept hg (h.a01.symm).ne) (by show B + 1 < B + 3; omega) _, ownsRow_setCell_below (own_len ho (by simp)) (by show B + 1 < B + 3; omega) _, ownsRow_setCell_below (h.o2.kept hg (h.a12).ne) (by show B + 1 < B + 3; omega) _, ((h.a01).symm.left h.o0 (Nat.le_refl _) hp).symm, h.a02, (h.a12).left h.o2 (Nat.le_refl _) hp, by have := h.lt; have := hg.size; simp [World.setCell]; omega⟩

theorem St.step2 {B : Nat} {w w1 : World} {v0 v1 v2 v' s : Value} {us0 us1 us2 : List Value} (h : St B w v0 v1 v2 us0 us1 us2)
    (ho : w1.ownsRow (B + 3) 22 1 v' (us2.length + 1) (us2 ++ [s])) (hg : w.grownBy w1 v2.ownBlock) (hp : v'.ownBlock = v2.ownBlock ∨ v'.ownBlock = some w.heap.size) :
    St B (w1.setCell ⟨B + 2, 0, none⟩ v') v0 v1 v' us0 us1 (us2 ++ [s]) := by
  have k0 : w1.heap[B]? = some (.cells #[v0] 24 (0, 0)) := by rw [low_kept h.o2 hg (lt_of_some h.b0) (by omega)]; exact h.b0
  have k1 : w1.heap[B + 1]? = some (.cells #[v1] 24 (0, 0)) := by rw [low_kept h.o2 hg (lt_of_some h.b1) (by omega)]; exact h.b1
  have k2 : w1.heap[B + 2]? = some (.cells #[v2] 24 (0, 0)) := by rw [low_kept h.o2 hg (lt_of_some h.b2) (by omega)]; exact h.b2
  exact ⟨by rw [heap_setCell_other w1 ⟨B + 2, 0, none⟩ (B) v' (by show B ≠ B + 2; omega)]; exact k0, by rw [heap_setCell_other w1 ⟨B + 2, 0, none⟩ (B + 1) v' (by show B + 1 ≠ B + 2; omega)]; exact k1, by rw [heap_setCell_same w1 (B + 2) 0 #[v2] 24 v' k2]; rfl, ownsRow_setCell_below (h.o0.kept hg (h.a02.symm).ne) (by show B + 2 < B + 3; omega) _, ownsRow_setCell_below (h.o1.kept hg (h.a12.symm).ne) (by show B + 2 < B + 3; omega) _, ownsRow_setCell_below (own_len ho (by simp)) (by show B + 2 < B + 3; omega) _, h.a01, ((h.a02).symm.left h.o0 (Nat.le_refl _) hp).symm, ((h.a12).symm.left h.o1 (Nat.le_refl _) hp).symm, by have := h.lt; have := hg.size; simp [World.setCell]; omega⟩

end Go.Proofs.Qxb6608652aDoor
