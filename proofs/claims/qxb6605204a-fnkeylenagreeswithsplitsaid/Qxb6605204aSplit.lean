import Derived.Test.Qxb6605204aTrim
import Derived.Test.Qxb6605204aCopy
namespace Go.Proofs.Qxb6605204a
set_option linter.unusedVariables false
set_option linter.unusedSimpArgs false
open Go.ChangeShapes Go.WideShapes Go.ChangeAt Go.RowKit

theorem below_draws {B : Nat} {a w : World} (h : Below B a w) (n : Nat) : Below B a (w.drewN n) := h.trans ⟨rfl, rfl, rfl, Nat.le_refl _, fun _ _ => rfl⟩

set_option maxHeartbeats 400000 in
theorem split_of (q : Option Addr) (n m k r : Nat) (fl : Bool) (Pv : Option Addr → Prop) (w : World)
    (hT : Calls Try.prog 17 #[.slice q n n, .slice (some ⟨w.heap.size, 0, none⟩) 1 1] (w.alloc (.cells #[.int .u8 10] 5 (1, 2))) fun e w' => e = .returned (.slice q m n) ∧ w' = w.alloc (.cells #[.int .u8 10] 5 (1, 2)))
    (hC : Calls Try.prog 18 #[.slice q m n, .slice (some ⟨w.heap.size + 1, 0, none⟩) 1 1] ((w.alloc (.cells #[.int .u8 10] 5 (1, 2))).alloc (.cells #[.int .u8 9] 5 (1, 2))) fun e w' => (∃ v vc, e = .returned (.tuple #[.slice q k n, .slice v r vc, .bool fl]) ∧ Pv v) ∧ ∃ d, w' = ((w.alloc (.cells #[.int .u8 10] 5 (1, 2))).alloc (.cells #[.int .u8 9] 5 (1, 2))).drewN d) :
    Calls Try.prog 10 #[.slice q n n] w fun e w' => (∃ v vc, e = .returned (.tuple #[.slice q k n, .slice v r vc]) ∧ Pv v) ∧ Below w.heap.size w w' := by
  have kc := fun (w : World) (C : Array Value) (n c : Nat) => Lib.run_convert_bytes_const (P := Try.prog) w 22 5 C n c Try.underlying22 Try.underlying5
  have kc2 : (convert 22 22 (.slice (some ⟨w.heap.size + 1, 0, none⟩) 1 1)).run Try.prog ((w.alloc (.cells #[.int .u8 10] 5 (1, 2))).alloc (.cells #[.int .u8 9] 5)) = .ok (.slice (some ⟨w.heap.size + 1, 0, none⟩) 1 1) ((w.alloc (.cells #[.int .u8 10] 5 (1, 2))).alloc (.cells #[.int .u8 9] 5 (1, 2))) := by
    have := kc (w.alloc (.cells #[.int .u8 10] 5 (1, 2))) #[.int .u8 9] 1 1
    have hs : (w.alloc (.cells #[.int .u8 10] 5 (1, 2))).heap.size = w.heap.size + 1 := by simp
    rw [hs] at this
    exact this
  go_enter Try.func10, Try.ntmps10
  go_wp2_with fail
  refine hT.mono ?_
  rintro e w1 ⟨rfl, hw1⟩
  have hw2 := hw1
  subst hw2
  clear hw1
  go_wp2_with fail
  refine hC.mono ?_
  rintro e w2 ⟨⟨v, vc, rfl, hv⟩, d, hw2⟩
  have HB : Hid (Below w.heap.size w w2) := by
    subst hw2
    exact below_draws (((Below.refl _ _).alloc (Nat.le_refl _) _).alloc (by simp) _) d
  clear hw2
  go_wp2_with fail
  go_ret2
  exact ⟨⟨v, vc, rfl, hv⟩, HB.out⟩

end Go.Proofs.Qxb6605204a
