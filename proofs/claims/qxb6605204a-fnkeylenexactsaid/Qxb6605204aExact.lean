import Derived.Test.Qxb6605204aCopy
import Derived.Test.Qxb6605204aKeyLen
namespace Go.Proofs.Qxb6605204a
set_option linter.unusedVariables false
set_option linter.unusedSimpArgs false
open Go.ChangeShapes Go.WideShapes Go.ChangeAt Go.RowKit

set_option maxHeartbeats 400000 in
theorem bytes13_yes (p : Option Addr) (n c : Nat) (w : World) (hn : n ≤ 1048576) : Calls Try.prog 13 #[.slice p n c] w fun e w' => e = .returned (.bool true) ∧ w' = w := by
  go_enter Try.func13, Try.ntmps13
  go_wp2
  go_ret
  exact ⟨rfl, rfl⟩

set_option maxHeartbeats 400000 in
theorem bytes13_no (p : Option Addr) (n c : Nat) (w : World) (hn : 1048576 < n) : Calls Try.prog 13 #[.slice p n c] w fun e w' => e = .returned (.bool false) ∧ w' = w := by
  go_enter Try.func13, Try.ntmps13
  go_wp2
  go_ret
  exact ⟨rfl, rfl⟩

set_option maxHeartbeats 400000 in
theorem exact_big (p : Option Addr) (n c : Nat) (w : World) (hn : 1048576 < n) : Calls Try.prog 5 #[.slice p n c] w fun e w' => e = .returned (.bool true) ∧ w' = w := by
  go_enter Try.func5, Try.ntmps5
  go_wp2_with (go_at_call 13; refine (bytes13_no _ _ _ _ hn).mono ?_; rintro e w' ⟨rfl, rfl⟩)
  go_ret
  exact ⟨rfl, rfl⟩

set_option maxHeartbeats 1000000 in
theorem exact_small (p : Option Addr) (n c : Nat) (xs : List Int) (w : World) (h : Rd w p n xs) (hp : p = none → n = 0 ∧ c = 0) (hn : n ≤ 1048576) :
    Calls Try.prog 5 #[.slice p n c] w fun e w' => e = .returned (.bool true) ∧ Below w.heap.size w w' := by
  go_enter Try.func5, Try.ntmps5
  go_wp2_with (go_at_call 13; refine (bytes13_yes _ _ _ _ hn).mono ?_; rintro e w' ⟨rfl, rfl⟩)
  refine (copy_any p n c xs _ h hp hn).mono ?_
  rintro e w1 ⟨q, rfl, hown, hbel⟩
  rcases hown with ⟨rfl, rfl, rfl⟩ | ⟨b, rfl, hb1, hb2, hc⟩
  · go_wp2_with (go_at_call 14; refine (keylen_nil _).mono ?_; rintro e w' ⟨rfl, rfl⟩)
    refine wp_loop_rounds 1 ?_
    rw [rounds_succ]
    go_wp2
    go_ret
    exact ⟨rfl, hbel⟩
  · have hle := kl_le xs
    have hlen : xs.length = n := h.len
    have hc0 : ∀ i, i < n → w1.cell? ⟨b, 0 + i, none⟩ = some (.int .u8 (xs.getD i 0)) := fun i hi => by rw [Nat.zero_add]; exact hc i hi
    have HK := keylen_at b 0 n n xs w1 hlen h.rng (Nat.le_refl _) (by omega) hc0
    have hbefore : ∀ i, i < kl xs → stop (xs.getD i 0) = false := kl_before xs
    have hat : kl xs < xs.length → stop (xs.getD (kl xs) 0) = true := kl_at xs
    rw [hlen] at hle hat
    have HL : Hid (xs.length = n) := hlen
    clear hlen hc0
    generalize kl xs = m at *
    have hst : ∀ i, i < m → (xs.getD i 0 == 9) = false ∧ (xs.getD i 0 == 10) = false := fun i hi => by simpa [stop] using hbefore i hi
    clear hbefore
    by_cases hmn : m < n
    · have hd : decide (m < n) = true := decide_eq_true hmn
      have hsa := hat hmn
      clear hat
      rw [hd] at HK
      clear hd
      go_wp2_with fail
      refine HK.mono ?_
      rintro e w' ⟨rfl, hw⟩
      have hw2 := hw.symm
      subst hw2
      go_wp2_with fail
      go_loop [5] (fun i => ∃ k : Nat, k ≤ m ∧ i = .int .i64 k) (fun i => m - (intOf i).toNat)
      case atStart => exact ⟨0, Nat.zero_le _, rfl⟩
      case round =>
        obtain ⟨k, hk, rfl⟩ := hrel
        by_cases hlt : k < m
        · have hck := hc k (by omega)
          obtain ⟨g1, g2⟩ := hst k hlt
          clear hst hc HK
          generalize xs.getD k 0 = z at *
          go_wp2
          go_round
          case rel => exact ⟨k + 1, by omega, by go_num⟩
          case measure => simp [intOf]; omega
        · obtain rfl : k = m := by omega
          have hck := hc k hmn
          have hne : ((k : Int) == (n : Int)) = false := by simp; omega
          clear hst hc HK
          generalize xs.getD k 0 = z at *
          by_cases h9 : (z == 9) = true
          · go_wp2
            go_ret
            exact ⟨rfl, hbel⟩
          · have h10 : (z == 10) = true := by
              have := hsa
              simp only [stop, Bool.or_eq_true] at this
              rcases this with h | h
              · exact absurd h h9
              · exact h
            have h9f : (z == 9) = false := by simpa using h9
            clear h9
            go_wp2
            go_ret
            exact ⟨rfl, hbel⟩
    · have hmn' : m = n := by omega
      subst hmn'
      have hd : decide (m < m) = false := by simp
      rw [hd] at HK
      clear hd hat
      go_wp2_with fail
      refine HK.mono ?_
      rintro e w' ⟨rfl, hw⟩
      have hw2 := hw.symm
      subst hw2
      go_wp2_with fail
      go_loop [5] (fun i => ∃ k : Nat, k ≤ m ∧ i = .int .i64 k) (fun i => m - (intOf i).toNat)
      case atStart => exact ⟨0, Nat.zero_le _, rfl⟩
      case round =>
        obtain ⟨k, hk, rfl⟩ := hrel
        by_cases hlt : k < m
        · have hck := hc k (by omega)
          obtain ⟨g1, g2⟩ := hst k hlt
          clear hst hc HK
          generalize xs.getD k 0 = z at *
          go_wp2
          go_round
          case rel => exact ⟨k + 1, by omega, by go_num⟩
          case measure => simp [intOf]; omega
        · obtain rfl : k = m := by omega
          go_wp2
          go_ret
          exact ⟨rfl, hbel⟩

end Go.Proofs.Qxb6605204a
