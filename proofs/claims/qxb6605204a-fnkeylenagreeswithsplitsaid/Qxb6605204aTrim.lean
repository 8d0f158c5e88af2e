import Derived.Test.Qxb6605204aKeyLen
import Derived.Laws.BytesArg
import Derived.Lib.SlBytesConst
import Derived.Deep.QuietTactic
import Derived.BigQuiet
namespace Go.Proofs.Qxb6605204a
set_option linter.unusedVariables false
set_option linter.unusedSimpArgs false
open Go.ChangeShapes Go.WideShapes Go.ChangeAt Go.RowKit

theorem str_eq {x y : Int} (hx : 0 ≤ x ∧ x < 256) (hy : 0 ≤ y ∧ y < 256) : ((strOfNums [x]).toList == (strOfNums [y]).toList) = (x == y) := by
  rw [Lib.strOfNums_toList, Lib.strOfNums_toList, Bool.eq_iff_iff, beq_iff_eq, beq_iff_eq]
  simp only [Lib.bytesOf, List.map_cons, List.map_nil, List.cons.injEq, and_true]
  exact u8_eq hx hy

set_option maxHeartbeats 400000 in
/-- bytes.Equal at two slices of one byte. -/
theorem equal1 (b1 o1 c1 b2 o2 c2 : Nat) (x y : Int) (w : World) (hx : 0 ≤ x ∧ x < 256) (hy : 0 ≤ y ∧ y < 256) (h1 : w.cell? ⟨b1, o1, none⟩ = some (.int .u8 x)) (h2 : w.cell? ⟨b2, o2, none⟩ = some (.int .u8 y)) :
    Calls Try.prog 23 #[.slice (some ⟨b1, o1, none⟩) 1 c1, .slice (some ⟨b2, o2, none⟩) 1 c2] w fun e w' => e = .returned (.bool (x == y)) ∧ w' = w := by
  have g1 := run_convert_bytes_arg (P := Try.prog) w 22 5 Try.underlying22 Try.underlying5 b1 o1 1 c1 [x] rfl (fun i hi => by obtain rfl : i = 0 := (by omega); exact h1) 9 Try.underlying9
  have g2 := run_convert_bytes_arg (P := Try.prog) w 22 5 Try.underlying22 Try.underlying5 b2 o2 1 c2 [y] rfl (fun i hi => by obtain rfl : i = 0 := (by omega); exact h2) 9 Try.underlying9
  rw [← str_eq hx hy]
  clear h1 h2 hx hy
  generalize strOfNums [x] = s at *
  generalize strOfNums [y] = t at *
  go_enter Try.func23, Try.ntmps23
  go_wp2
  go_ret
  exact ⟨rfl, rfl⟩

set_option maxHeartbeats 400000 in
/-- bytes.TrimSuffix at no byte, the suffix of one byte. -/
theorem trim_zero (p q : Option Addr) (c d : Nat) (w : World) : Calls Try.prog 17 #[.slice p 0 c, .slice q 1 d] w fun e w' => e = .returned (.slice p 0 c) ∧ w' = w := by
  go_enter Try.func17, Try.ntmps17
  go_wp2
  go_ret
  exact ⟨rfl, rfl⟩

set_option maxHeartbeats 400000 in
/-- bytes.HasSuffix of one byte. -/
theorem suffix1 (b o n c b2 o2 c2 : Nat) (x y : Int) (w : World) (hx : 0 ≤ x ∧ x < 256) (hy : 0 ≤ y ∧ y < 256) (hnc : n + 1 ≤ c) (hcb : c ≤ 9223372036854775807) (h1 : w.cell? ⟨b, o + n, none⟩ = some (.int .u8 x)) (h2 : w.cell? ⟨b2, o2, none⟩ = some (.int .u8 y)) :
    Calls Try.prog 20 #[.slice (some ⟨b, o, none⟩) (n + 1) c, .slice (some ⟨b2, o2, none⟩) 1 c2] w fun e w' => e = .returned (.bool (x == y)) ∧ w' = w := by
  have hE := fun w h1 h2 => equal1 b (o + n) (c - n) b2 o2 c2 x y w hx hy h1 h2
  generalize (x == y) = r at *
  have hcn : ¬ c = n := by omega
  go_enter Try.func20, Try.ntmps20
  go_wp2_with fail
  refine (hE _ h1 h2).mono ?_
  rintro e w' ⟨rfl, rfl⟩
  go_wp2_with fail
  go_ret
  exact ⟨rfl, rfl⟩

set_option maxHeartbeats 400000 in
/-- bytes.TrimSuffix at a byte or more, the suffix of one byte. -/
theorem trim_yes (b o n c b2 o2 c2 : Nat) (x y : Int) (w : World) (hx : 0 ≤ x ∧ x < 256) (hy : 0 ≤ y ∧ y < 256) (hnc : n + 1 ≤ c) (hcb : c ≤ 9223372036854775807) (h1 : w.cell? ⟨b, o + n, none⟩ = some (.int .u8 x)) (h2 : w.cell? ⟨b2, o2, none⟩ = some (.int .u8 y)) (he : (x == y) = true) :
    Calls Try.prog 17 #[.slice (some ⟨b, o, none⟩) (n + 1) c, .slice (some ⟨b2, o2, none⟩) 1 c2] w fun e w' => e = .returned (.slice (some ⟨b, o, none⟩) n c) ∧ w' = w := by
  have hE := fun w h1 h2 => suffix1 b o n c b2 o2 c2 x y w hx hy hnc hcb h1 h2
  rw [he] at hE
  clear he
  go_enter Try.func17, Try.ntmps17
  go_wp2_with fail
  refine (hE _ h1 h2).mono ?_
  rintro e w' ⟨rfl, rfl⟩
  go_wp2_with fail
  go_ret
  exact ⟨by simp, rfl⟩

set_option maxHeartbeats 400000 in
theorem trim_no (b o n c b2 o2 c2 : Nat) (x y : Int) (w : World) (hx : 0 ≤ x ∧ x < 256) (hy : 0 ≤ y ∧ y < 256) (hnc : n + 1 ≤ c) (hcb : c ≤ 9223372036854775807) (h1 : w.cell? ⟨b, o + n, none⟩ = some (.int .u8 x)) (h2 : w.cell? ⟨b2, o2, none⟩ = some (.int .u8 y)) (he : (x == y) = false) :
    Calls Try.prog 17 #[.slice (some ⟨b, o, none⟩) (n + 1) c, .slice (some ⟨b2, o2, none⟩) 1 c2] w fun e w' => e = .returned (.slice (some ⟨b, o, none⟩) (n + 1) c) ∧ w' = w := by
  have hE := fun w h1 h2 => suffix1 b o n c b2 o2 c2 x y w hx hy hnc hcb h1 h2
  rw [he] at hE
  clear he
  go_enter Try.func17, Try.ntmps17
  go_wp2_with fail
  refine (hE _ h1 h2).mono ?_
  rintro e w' ⟨rfl, rfl⟩
  go_wp2_with fail
  go_ret
  exact ⟨rfl, rfl⟩

set_option maxHeartbeats 1000000 in
set_option maxRecDepth 100000 in
/-- bytes.Index, the separator of one byte. -/
theorem index1 (p : Option Addr) (n c b2 o2 c2 : Nat) (y : Int) (i : Int) (w : World) (h2 : w.cell? ⟨b2, o2, none⟩ = some (.int .u8 y))
    (hI : Calls Try.prog 19 #[.slice p n c, .int .u8 y] w fun e w' => e = .returned (.int .i64 i) ∧ w' = w) :
    Calls Try.prog 21 #[.slice p n c, .slice (some ⟨b2, o2, none⟩) 1 c2] w fun e w' => e = .returned (.int .i64 i) ∧ w' = w := by
  go_enter Try.func21, Try.ntmps21
  go_wp2_with (go_at_call 19; refine hI.mono ?_; rintro e w' ⟨rfl, rfl⟩)
  go_ret
  exact ⟨rfl, rfl⟩

set_option maxHeartbeats 1000000 in
/-- bytes.Cut, the separator of one byte that does not stand in s. -/
theorem cut_none (p : Option Addr) (n c b2 o2 c2 : Nat) (y : Int) (w : World) (h2 : w.cell? ⟨b2, o2, none⟩ = some (.int .u8 y))
    (hI : Calls Try.prog 19 #[.slice p n c, .int .u8 y] w fun e w' => e = .returned (.int .i64 (-1)) ∧ w' = w) :
    Calls Try.prog 18 #[.slice p n c, .slice (some ⟨b2, o2, none⟩) 1 c2] w fun e w' => e = .returned (.tuple #[.slice p n c, .slice none 0 0, .bool false]) ∧ w' = w := by
  have hX := index1 p n c b2 o2 c2 y (-1) w h2 hI
  clear hI
  go_enter Try.func18, Try.ntmps18
  go_wp2_with (go_at_call 21; refine hX.mono ?_; rintro e w' ⟨rfl, rfl⟩)
  go_ret3
  exact ⟨rfl, rfl⟩

set_option maxHeartbeats 1000000 in
/-- bytes.Cut, the separator of one byte first at place j. -/
theorem cut_some (b o n c b2 o2 c2 j : Nat) (y : Int) (w : World) (hj : j < n) (hnc : n ≤ c) (hcb : c ≤ 4611686018427387904) (h2 : w.cell? ⟨b2, o2, none⟩ = some (.int .u8 y))
    (hI : Calls Try.prog 19 #[.slice (some ⟨b, o, none⟩) n c, .int .u8 y] w fun e w' => e = .returned (.int .i64 (j : Int)) ∧ w' = w) :
    Calls Try.prog 18 #[.slice (some ⟨b, o, none⟩) n c, .slice (some ⟨b2, o2, none⟩) 1 c2] w fun e w' => (∃ v, e = .returned (.tuple #[.slice (some ⟨b, o, none⟩) j c, .slice v (n - (j + 1)) (c - (j + 1)), .bool true]) ∧ (0 < n - (j + 1) → v = some ⟨b, o + (j + 1), none⟩)) ∧ ∃ q, w' = w.drewN q := by
  have hX := index1 (some ⟨b, o, none⟩) n c b2 o2 c2 y j w h2 hI
  clear hI
  by_cases hc : c = j + 1
  · subst hc
    obtain rfl : n = j + 1 := by omega
    simp only [Nat.sub_self]
    go_enter Try.func18, Try.ntmps18
    go_wp2_with (go_at_call 21; refine hX.mono ?_; rintro e w' ⟨rfl, rfl⟩)
    go_quiet (fail)
    go_wp2
    go_ret3
    exact ⟨⟨_, rfl, fun h => absurd h (Nat.lt_irrefl _)⟩, _, rfl⟩
  · have hd : ¬ (c = j + 1) := hc
    go_enter Try.func18, Try.ntmps18
    go_wp2_with (go_at_call 21; refine hX.mono ?_; rintro e w' ⟨rfl, rfl⟩)
    go_quiet (fail)
    go_wp2
    go_ret3
    exact ⟨⟨_, rfl, fun h => rfl⟩, _, rfl⟩

end Go.Proofs.Qxb6605204a
