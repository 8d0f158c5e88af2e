import Derived.Test.Qxb6605204aSplit2
namespace Go.Proofs.Qxb6605204a
set_option linter.unusedVariables false
set_option linter.unnecessarySimpa false
set_option linter.unusedSimpArgs false
open Go.ChangeShapes Go.WideShapes Go.ChangeAt Go.RowKit

set_option maxHeartbeats 1000000 in
/-- zzSameBytes at two slices of the same bytes. -/
theorem same_any (p q : Option Addr) (n c d : Nat) (xs : List Int) (w : World) (h : Rd w p n xs) (g : Rd w q n xs) (hn : n ≤ 1048576) :
    Calls Try.prog 12 #[.slice p n c, .slice q n d] w fun e w' => e = .returned (.bool true) ∧ Below w.heap.size w w' := by
  have hself : ((n : Int) != (n : Int)) = false := by simp
  go_enter Try.func12, Try.ntmps12
  go_wp2_with fail
  go_loopw [5] (fun i wr => ∃ k : Nat, k ≤ n ∧ i = .int .i64 k ∧ Below w.heap.size w wr) (fun i _ => n - (intOf i).toNat)
  case atStart => exact ⟨0, Nat.zero_le _, rfl, Below.refl _ _⟩
  case round =>
    obtain ⟨k, hk, rfl, hbel⟩ := hrel
    by_cases hlt : k < n
    · obtain ⟨b, o, rfl, hb, hc⟩ := h.spot (by omega)
      obtain ⟨b2, o2, rfl, hb2, hc2⟩ := g.spot (by omega)
      have h1 : wr.cell? ⟨b, o + k, none⟩ = some (.int .u8 (xs.getD k 0)) := by rw [hbel.cell (p := ⟨b, o + k, none⟩) hb]; exact hc k hlt
      have h2 : wr.cell? ⟨b2, o2 + k, none⟩ = some (.int .u8 (xs.getD k 0)) := by rw [hbel.cell (p := ⟨b2, o2 + k, none⟩) hb2]; exact hc2 k hlt
      clear hc hc2 h g
      generalize xs.getD k 0 = z at *
      have hz : (z != z) = false := by simp
      go_wp2_with fail
      go_quiet (fail)
      go_wp2
      go_roundw
      case rel => exact ⟨k + 1, by omega, by go_num, below_draws hbel _⟩
      case measure => simp [intOf]; omega
    · go_wp2
      go_ret
      exact ⟨rfl, hbel⟩

set_option maxHeartbeats 400000 in
theorem bytes11_yes (p q : Option Addr) (n c m d : Nat) (w : World) (hn : n + m ≤ 1048576) : Calls Try.prog 11 #[.slice p n c, .slice q m d] w fun e w' => e = .returned (.bool true) ∧ w' = w := by
  go_enter Try.func11, Try.ntmps11
  go_wp2
  go_ret
  exact ⟨rfl, rfl⟩

set_option maxHeartbeats 400000 in
theorem bytes11_any (p q : Option Addr) (n c m d : Nat) (w : World) (hn : n ≤ 9223372036854775807) (hm : m ≤ 9223372036854775807) : Calls Try.prog 11 #[.slice p n c, .slice q m d] w fun e w' => e = .returned (.bool (decide (n + m ≤ 1048576))) ∧ w' = w := by
  by_cases h : n + m ≤ 1048576
  · refine (bytes11_yes p q n c m d w h).mono ?_
    rintro e w' ⟨rfl, rfl⟩
    exact ⟨by simp [h], rfl⟩
  · have hd : decide (n + m ≤ 1048576) = false := by simp; omega
    rw [hd]
    clear hd
    by_cases h1 : n ≤ 1048576
    · by_cases h2 : m ≤ 1048576
      · go_enter Try.func11, Try.ntmps11
        go_wp2
        go_ret
        exact ⟨rfl, rfl⟩
      · go_enter Try.func11, Try.ntmps11
        go_wp2
        go_ret
        exact ⟨rfl, rfl⟩
    · go_enter Try.func11, Try.ntmps11
      go_wp2
      go_ret
      exact ⟨rfl, rfl⟩

set_option maxHeartbeats 400000 in
/-- Out of the bound: true at once. -/
theorem trip_big (p q : Option Addr) (n c m d : Nat) (w : World) (hn : n ≤ 9223372036854775807) (hm : m ≤ 9223372036854775807) (hb : ¬ (n ≤ 524288 ∧ m ≤ 524288)) : Calls Try.prog 4 #[.slice p n c, .slice q m d] w fun e w' => e = .returned (.bool true) ∧ w' = w := by
  have hby := fun w => bytes11_any p q n c m d w hn hm
  by_cases h : n + m ≤ 1048576
  · have hd : decide (n + m ≤ 1048576) = true := by simp [h]
    rw [hd] at hby
    clear hd
    by_cases h1 : n ≤ 524288
    · have h2 : 524288 < m := by omega
      clear hb
      go_enter Try.func4, Try.ntmps4
      go_wp2_with (go_at_call 11; refine (hby _).mono ?_; rintro e w' ⟨rfl, rfl⟩)
      go_ret
      exact ⟨rfl, rfl⟩
    · clear hb
      go_enter Try.func4, Try.ntmps4
      go_wp2_with (go_at_call 11; refine (hby _).mono ?_; rintro e w' ⟨rfl, rfl⟩)
      go_ret
      exact ⟨rfl, rfl⟩
  · have hd : decide (n + m ≤ 1048576) = false := by simp; omega
    rw [hd] at hby
    clear hd hb
    go_enter Try.func4, Try.ntmps4
    go_wp2_with (go_at_call 11; refine (hby _).mono ?_; rintro e w' ⟨rfl, rfl⟩)
    go_ret
    exact ⟨rfl, rfl⟩

/-! ### What Split gives on the two records -/
theorem getD_l {xs ys : List Int} {i : Nat} (h : i < xs.length) : (xs ++ ys).getD i 0 = xs.getD i 0 := by
  simp [List.getD, List.getElem?_append_left h]
theorem getD_r {xs ys : List Int} {i : Nat} : (xs ++ ys).getD (xs.length + i) 0 = ys.getD i 0 := by
  simp [List.getD, List.getElem?_append_right]

theorem trip_L1 {xs ys : List Int} (h9 : ∀ i, i < xs.length → xs.getD i 0 ≠ 9) :
    tm (xs ++ 9 :: (ys ++ [10])) = xs.length + (ys.length + 1) ∧ (xs ++ 9 :: (ys ++ [10])).take (xs.length + (ys.length + 1)) = xs ++ 9 :: ys ∧ tb (xs ++ 9 :: ys) = xs.length := by
  refine ⟨?_, ?_, ?_⟩
  · refine tm_yes (by simp; omega) ?_
    rw [getD_r]
    rw [List.getD_cons_succ]
    have := getD_r (xs := ys) (ys := [10]) (i := 0)
    simpa using this
  · rw [List.take_append]
    have : (xs.length + (ys.length + 1) - xs.length) = ys.length + 1 := by omega
    rw [this, List.take_of_length_le (by omega), List.take_succ_cons, List.take_append]
    simp
  · refine tb_eq _ _ (by simp) (fun i hi => ?_) (fun _ => ?_)
    · rw [getD_l hi]; exact h9 i hi
    · have := getD_r (xs := xs) (ys := 9 :: ys) (i := 0)
      simpa using this

theorem trip_L2 {xs : List Int} (h9 : ∀ i, i < xs.length → xs.getD i 0 ≠ 9) :
    tm (xs ++ [10]) = xs.length ∧ (xs ++ [10]).take xs.length = xs ∧ tb xs = xs.length := by
  refine ⟨tm_yes (by simp) (by have := getD_r (xs := xs) (ys := [10]) (i := 0); simpa using this), by simp, tb_eq _ _ (Nat.le_refl _) h9 (fun h => absurd h (Nat.lt_irrefl _))⟩

end Go.Proofs.Qxb6605204a
