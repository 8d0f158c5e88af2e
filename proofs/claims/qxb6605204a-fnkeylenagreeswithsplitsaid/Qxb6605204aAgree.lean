import Derived.Test.Qxb6605204aSplit2
namespace Go.Proofs.Qxb6605204a
set_option linter.unusedVariables false
set_option linter.unusedSimpArgs false
open Go.ChangeShapes Go.WideShapes Go.ChangeAt Go.RowKit

theorem tm_cases (xs : List Int) : (tm xs = xs.length ∧ (0 < xs.length → xs.getD (xs.length - 1) 0 ≠ 10)) ∨ (0 < xs.length ∧ tm xs = xs.length - 1 ∧ xs.getD (xs.length - 1) 0 = 10) := by
  unfold tm
  split
  · rename_i h; exact .inr ⟨h.1, rfl, h.2⟩
  · rename_i h; exact .inl ⟨rfl, fun h0 h10 => h ⟨h0, h10⟩⟩

theorem agree_plain (xs : List Int) (h10 : ∀ i, i + 1 < xs.length → xs.getD i 0 ≠ 10) :
    kl xs = tb (xs.take (tm xs)) ∧ decide (kl xs < xs.length) = (decide (tb xs < xs.length) || decide (tm xs < xs.length)) := by
  have hmle := tm_le xs
  have hlen : (xs.take (tm xs)).length = tm xs := by simp; omega
  have h1 := tb_le (xs.take (tm xs))
  have h2 := tb_before (xs.take (tm xs))
  have h3 := tb_at (xs.take (tm xs))
  rw [hlen] at h1 h3
  have hg : ∀ i, i < tm xs → (xs.take (tm xs)).getD i 0 = xs.getD i 0 := fun i hi => getD_take hi
  have hc := tm_cases xs
  have hk : kl xs = tb (xs.take (tm xs)) := by
    refine kl_eq xs _ (by omega) (fun i hi => ?_) (fun hlt => ?_)
    · refine stop_false ?_ ?_
      · have := h2 i hi; rwa [hg i (by omega)] at this
      · by_cases hi1 : i + 1 < xs.length
        · exact h10 i hi1
        · rcases hc with ⟨e1, e2⟩ | ⟨e0, e1, e2⟩
          · have : i = xs.length - 1 := by omega
            rw [this]; exact e2 (by omega)
          · omega
    · by_cases hkm : tb (xs.take (tm xs)) < tm xs
      · have := h3 hkm
        rw [hg _ hkm] at this
        simp only [stop, this]; rfl
      · rcases hc with ⟨e1, e2⟩ | ⟨e0, e1, e2⟩
        · omega
        · have : tb (xs.take (tm xs)) = xs.length - 1 := by omega
          rw [this]
          simp only [stop, e2]; rfl
  refine ⟨hk, ?_⟩
  rw [hk]
  generalize tb (xs.take (tm xs)) = k at *
  rw [Bool.eq_iff_iff, Bool.or_eq_true, decide_eq_true_eq, decide_eq_true_eq, decide_eq_true_eq]
  constructor
  · intro hlt
    by_cases hkm : k < tm xs
    · left
      have hx := h3 hkm
      rw [hg _ hkm] at hx
      by_cases ht : tb xs ≤ k
      · omega
      · exact absurd hx (tb_before xs k (by omega))
    · right; omega
  · rintro (ht | ht)
    · by_cases hkm : k < tm xs
      · omega
      · have hx := tb_at xs ht
        by_cases htm : tb xs < tm xs
        · have := h2 (tb xs) (by omega)
          rw [hg _ htm] at this
          exact absurd hx this
        · rcases hc with ⟨e1, e2⟩ | ⟨e0, e1, e2⟩
          · omega
          · have : tb xs = xs.length - 1 := by omega
            rw [this, e2] at hx
            exact absurd hx (by decide)
    · omega

theorem tab_step (xs : List Int) (k : Nat) (hk : k < xs.length) : decide (tb xs < k + 1) = ((xs.getD k 0 == 9) || decide (tb xs < k)) := by
  rw [Bool.eq_iff_iff, Bool.or_eq_true, decide_eq_true_eq, decide_eq_true_eq, beq_iff_eq]
  constructor
  · intro h
    by_cases ht : tb xs < k
    · exact .inr ht
    · have e : tb xs = k := by omega
      left
      have := tb_at xs (by omega)
      rwa [e] at this
  · rintro (h | h)
    · by_cases ht : tb xs < k + 1
      · exact ht
      · exact absurd h (tb_before xs k (by omega))
    · omega

set_option maxHeartbeats 400000 in
theorem bytes16_yes (p : Option Addr) (n c : Nat) (w : World) (hn : n ≤ 1048576) : Calls Try.prog 16 #[.slice p n c] w fun e w' => e = .returned (.bool true) ∧ w' = w := by
  go_enter Try.func16, Try.ntmps16
  go_wp2
  go_ret
  exact ⟨rfl, rfl⟩

set_option maxHeartbeats 400000 in
theorem bytes16_no (p : Option Addr) (n c : Nat) (w : World) (hn : 1048576 < n) : Calls Try.prog 16 #[.slice p n c] w fun e w' => e = .returned (.bool false) ∧ w' = w := by
  go_enter Try.func16, Try.ntmps16
  go_wp2
  go_ret
  exact ⟨rfl, rfl⟩

set_option maxHeartbeats 400000 in
theorem agree_big (p : Option Addr) (n c : Nat) (w : World) (hn : 1048576 < n) : Calls Try.prog 7 #[.slice p n c] w fun e w' => e = .returned (.bool true) ∧ w' = w := by
  go_enter Try.func7, Try.ntmps7
  go_wp2_with (go_at_call 16; refine (bytes16_no _ _ _ _ hn).mono ?_; rintro e w' ⟨rfl, rfl⟩)
  go_ret
  exact ⟨rfl, rfl⟩

theorem keylen_own2 {B : Nat} (q : Option Addr) (n : Nat) (xs : List Int) (w : World) (hx : xs.length = n) (hr : ∀ x ∈ xs, 0 ≤ x ∧ x < 256) (hn : n ≤ 9223372036854775807) (h : Own B w q n xs) :
    Calls Try.prog 14 #[.slice q n n] w fun e w' => e = .returned (.tuple #[.int .i64 (kl xs : Int), .bool (decide (kl xs < n))]) ∧ w' = w := by
  rcases h with ⟨rfl, rfl, rfl⟩ | ⟨b, rfl, _, _, hc⟩
  · exact keylen_nil w
  · exact keylen_at b 0 n n xs w hx hr (Nat.le_refl _) hn (fun i hi => by rw [Nat.zero_add]; exact hc i hi)

set_option maxHeartbeats 4000000 in
set_option maxRecDepth 100000 in
theorem agree_small (p : Option Addr) (n c : Nat) (xs : List Int) (w : World) (h : Rd w p n xs) (hp : p = none → n = 0 ∧ c = 0) (hn : n ≤ 1048576) :
    Calls Try.prog 7 #[.slice p n c] w fun e w' => e = .returned (.bool true) ∧ Below w.heap.size w w' := by
  have hlx : Hid (xs.length = n) := h.len
  have HR : Hid _ := h.rng
  go_enter Try.func7, Try.ntmps7
  go_wp2_with (go_at_call 16; refine (bytes16_yes _ _ _ _ hn).mono ?_; rintro e w' ⟨rfl, hw⟩; have hw2 := hw.symm; subst hw2; clear hw)
  go_loop [3] (fun i => ∃ k : Nat, k ≤ n ∧ i = .int .i64 k ∧ Hid (∀ i, i < k → xs.getD i 0 ≠ 10)) (fun i => n - (intOf i).toNat)
  case atStart => exact ⟨0, Nat.zero_le _, rfl, fun i hi => absurd hi (Nat.not_lt_zero _)⟩
  case round =>
    obtain ⟨k, hk, rfl, H10⟩ := hrel
    by_cases hlt : k + 1 < n
    · obtain ⟨b, o, rfl, hb, hc⟩ := h.spot (by omega)
      have hck := hc k (by omega)
      by_cases h10 : xs.getD k 0 = 10
      · have h10b : (xs.getD k 0 == 10) = true := by simpa using h10
        clear h10 hc h
        generalize xs.getD k 0 = z at *
        go_wp2
        go_ret
        exact ⟨rfl, Below.refl _ _⟩
      · have h10b : (xs.getD k 0 == 10) = false := by simpa using h10
        have H10' : Hid (∀ i, i < k + 1 → xs.getD i 0 ≠ 10) := fun i hi => by
          rcases Nat.lt_or_eq_of_le (Nat.le_of_lt_succ hi) with h' | h'
          · exact H10.out i h'
          · rw [h']; exact h10
        clear h10 hc h
        generalize xs.getD k 0 = z at *
        go_wp2
        go_round
        case rel => exact ⟨k + 1, by omega, by go_num, H10'⟩
        case measure => simp [intOf]; omega
    · have HP := agree_plain xs (fun i hi => H10.out i (by have := hlx.out; omega))
      rw [hlx.out] at HP
      obtain ⟨P1, P2⟩ := HP
      have HP1 : Hid _ := P1
      have HP2 : Hid _ := P2
      clear P1 P2 H10
      go_wp2_with fail
      refine (copy_any p n c xs _ h hp hn).mono ?_
      rintro e w1 ⟨q, rfl, hown, hb1⟩
      clear h hp
      have K1 := keylen_own2 q n xs w1 hlx.out HR.out (by omega) hown
      have K2 := split_own q n xs w1 hlx.out HR.out (by omega) hown
      rw [HP2.out, HP1.out] at K1
      go_wp2_with fail
      go_loop [4, 5] (fun t i => ∃ k : Nat, k ≤ n ∧ i = .int .i64 k ∧ t = .bool (decide (tb xs < k))) (fun _ i => n - (intOf i).toNat)
      case atStart => exact ⟨0, Nat.zero_le _, rfl, by simp⟩
      case round =>
        clear hk hlt
        obtain ⟨j, hj, rfl, rfl⟩ := hrel
        by_cases hlt : j < n
        · rcases hown with ⟨_, h0, _⟩ | ⟨b, rfl, hbb, hbl, hc⟩
          · omega
          · have hck := hc j hlt
            have HT : Hid _ := tab_step xs j (by rw [hlx.out]; exact hlt)
            by_cases h9 : (xs.getD j 0 == 9) = true
            · clear hc K1 K2 HP1 HP2
              rw [h9] at HT
              generalize xs.getD j 0 = z at *
              generalize decide (tb xs < j) = bb at *
              go_wp2
              go_round
              case rel => exact ⟨j + 1, by omega, by go_num, by rw [HT.out]; rfl⟩
              case measure => simp [intOf]; omega
            · have h9f : (xs.getD j 0 == 9) = false := by simpa using h9
              clear hc K1 K2 HP1 HP2 h9
              rw [h9f] at HT
              generalize xs.getD j 0 = z at *
              generalize decide (tb xs < j) = bb at *
              go_wp2
              go_round
              case rel => exact ⟨j + 1, by omega, by go_num, by rw [HT.out]; rfl⟩
              case measure => simp [intOf]; omega
        · obtain rfl : j = n := by omega
          clear hlt
          have htc := tm_cases xs
          rw [hlx.out] at htc
          have hz : ∀ r : Nat, ((r : Int) == (r : Int)) = true := fun r => by simp
          rcases htc with ⟨e1, e2⟩ | ⟨e0, e1, e2⟩
          · have d1 : decide (tm xs < j) = false := by simp; omega
            rw [d1, Bool.or_false] at K1
            rw [e1] at K1 K2
            clear HP1 HP2 d1 e1
            generalize decide (tb xs < j) = ht at *
            have hzk := hz (tb (xs.take j))
            unfold SplitPost at K2
            generalize tb (xs.take j) = r at *
            clear hz
            rcases Nat.eq_zero_or_pos j with h0 | h0
            · subst h0
              cases ht
              · go_wp2_with fail
                refine K1.mono ?_
                rintro e w' ⟨rfl, hw⟩
                have hw2 := hw.symm
                subst hw2
                clear hw
                go_wp2_with fail
                refine K2.mono ?_
                rintro e w2 ⟨v, vc, rfl, hk, hv, hb2⟩
                clear hk hv K1 K2
                go_wp2
                go_ret
                exact ⟨rfl, hb1.trans (hb2.mono hb1.size)⟩
              · go_wp2_with fail
                refine K1.mono ?_
                rintro e w' ⟨rfl, hw⟩
                have hw2 := hw.symm
                subst hw2
                clear hw
                go_wp2_with fail
                refine K2.mono ?_
                rintro e w2 ⟨v, vc, rfl, hk, hv, hb2⟩
                clear hk hv K1 K2
                go_wp2
                go_ret
                exact ⟨rfl, hb1.trans (hb2.mono hb1.size)⟩
            · rcases hown with ⟨_, h0', _⟩ | ⟨b, rfl, hbb, hbl, hc⟩
              · omega
              · have hck := hc (j - 1) (by omega)
                have hl10 : (xs.getD (j - 1) 0 == 10) = false := by simpa using e2 h0
                clear e2 hc
                generalize xs.getD (j - 1) 0 = z at *
                cases ht
                · go_wp2_with fail
                  refine K1.mono ?_
                  rintro e w' ⟨rfl, hw⟩
                  have hw2 := hw.symm
                  subst hw2
                  clear hw
                  go_wp2_with fail
                  refine K2.mono ?_
                  rintro e w2 ⟨v, vc, rfl, hk, hv, hb2⟩
                  clear hk hv K1 K2
                  go_wp2
                  go_ret
                  exact ⟨rfl, hb1.trans (hb2.mono hb1.size)⟩
                · go_wp2_with fail
                  refine K1.mono ?_
                  rintro e w' ⟨rfl, hw⟩
                  have hw2 := hw.symm
                  subst hw2
                  clear hw
                  go_wp2_with fail
                  refine K2.mono ?_
                  rintro e w2 ⟨v, vc, rfl, hk, hv, hb2⟩
                  clear hk hv K1 K2
                  go_wp2
                  go_ret
                  exact ⟨rfl, hb1.trans (hb2.mono hb1.size)⟩
          · have d1 : decide (tm xs < j) = true := by simp; omega
            rw [d1, Bool.or_true] at K1
            clear HP1 HP2 d1 e1
            have hzk := hz (tb (xs.take (tm xs)))
            unfold SplitPost at K2
            generalize tb (xs.take (tm xs)) = r at *
            clear hz
            generalize decide (tb xs < j) = ht at *
            rcases hown with ⟨_, h0', _⟩ | ⟨b, rfl, hbb, hbl, hc⟩
            · omega
            · have hck := hc (j - 1) (by omega)
              have hl10 : (xs.getD (j - 1) 0 == 10) = true := by simpa using e2
              clear e2 hc
              generalize xs.getD (j - 1) 0 = z at *
              cases ht
              · go_wp2_with fail
                refine K1.mono ?_
                rintro e w' ⟨rfl, hw⟩
                have hw2 := hw.symm
                subst hw2
                clear hw
                go_wp2_with fail
                refine K2.mono ?_
                rintro e w2 ⟨v, vc, rfl, hk, hv, hb2⟩
                clear hk hv K1 K2
                go_wp2
                go_ret
                exact ⟨rfl, hb1.trans (hb2.mono hb1.size)⟩
              · go_wp2_with fail
                refine K1.mono ?_
                rintro e w' ⟨rfl, hw⟩
                have hw2 := hw.symm
                subst hw2
                clear hw
                go_wp2_with fail
                refine K2.mono ?_
                rintro e w2 ⟨v, vc, rfl, hk, hv, hb2⟩
                clear hk hv K1 K2
                go_wp2
                go_ret
                exact ⟨rfl, hb1.trans (hb2.mono hb1.size)⟩

end Go.Proofs.Qxb6605204a
