import Derived.Test.Qxb6608652aDoorVal
namespace Go.Proofs.Qxb6608652aDoor
set_option linter.unusedVariables false
set_option linter.unusedSimpArgs false
open Go.ChangeShapes Go.WideShapes Go.ChangeAt Go.RowKit

set_option maxHeartbeats 1000000 in
set_option maxRecDepth 100000 in
/-- valueEnd at the text's end. -/
theorem vend_end (b n : Nat) (xs : List Int) (w : World) (ea : Addr) (hE : w.cell? ⟨0, 0, none⟩ = some (EM ea)) (hn : xs.length = n) (hle : n ≤ 1048576) :
    Calls Tryd.prog 16 #[.slice (some ⟨b, 0, none⟩) n n, .int .i64 (n : Int)] w (VPost xs ea n w) := by
  have HN : Hid (n = xs.length) := hn.symm
  clear hn
  go_enter Tryd.func16, Tryd.ntmps16
  go_wp2_with fail
  refine wp_loop_rounds 1 ?_
  rw [rounds_succ]
  go_wp2_with fail
  go_quiet (fail)
  go_wp2
  go_ret3
  exact ⟨.inr ⟨rfl, v_end HN.out⟩, below_draws (Below.refl _ _) _⟩

/-- The relation at the head of valueEnd's loop. -/
def VRel (xs : List Int) (k k' L : Nat) : Prop := (L = 0 ∧ k' = k) ∨ Nest xs k k' L

theorem bnd {xs : List Int} {k k' L : Nat} (h : VRel xs k k' L) (hk : k ≤ xs.length) : k' ≤ xs.length ∧ L ≤ k' := by
  rcases h with ⟨rfl, rfl⟩ | h
  · exact ⟨hk, Nat.zero_le _⟩
  · exact ⟨h.2.1, h.2.2.2.1⟩

set_option maxHeartbeats 4000000 in
set_option maxRecDepth 100000 in
/-- valueEnd at what is no string. -/
theorem vend_non (b n k : Nat) (xs : List Int) (w : World) (ea : Addr) (hE : w.cell? ⟨0, 0, none⟩ = some (EM ea)) (hE0 : 0 < w.heap.size) (hn : xs.length = n) (hk : k < n) (ht : Txt w b xs)
    (hw : ws (xs.getD k 0) = false) (h34 : xs.getD k 0 ≠ 34) :
    Calls Tryd.prog 16 #[.slice (some ⟨b, 0, none⟩) n n, .int .i64 (k : Int)] w (VPost xs ea k w) := by
  have hle := ht.len
  rw [hn] at hle
  have HN : Hid (xs.length = n) := hn
  have HW : Hid _ := hw
  have H34 : Hid _ := h34
  have hg1 : (xs.getD k 0 == 34) = false := by simpa using h34
  have hc0 := ht.cell k (by omega)
  clear hn hw h34
  obtain ⟨z0, hz0⟩ : ∃ z, xs.getD k 0 = z := ⟨_, rfl⟩
  rw [hz0] at hg1 hc0
  have HZ : Hid _ := hz0
  clear hz0
  have HT : Hid _ := ht
  clear ht
  go_enter Tryd.func16, Tryd.ntmps16
  go_wp2_with fail
  clear hg1 hc0
  go_loopw [1, 5, 6, 9] (fun i dp er lv wr => ∃ (k' L : Nat) (d : Int), i = .int .i64 k' ∧ dp = .int .i64 d ∧ 0 ≤ d ∧ d ≤ 1048576 ∧ er = .nilIface ∧ lv = .int .i64 L ∧ k' ≤ n ∧ L ≤ k' ∧ Hid (VRel xs k k' L) ∧ Below w.heap.size w wr) (fun i _ _ _ _ => n - (intOf i).toNat)
  case atStart => exact ⟨k, 0, 0, rfl, rfl, by omega, by omega, rfl, rfl, by omega, by omega, .inl ⟨rfl, rfl⟩, Below.refl _ _⟩
  case round =>
    obtain ⟨k', L, d, rfl, rfl, hd0, hd1, rfl, rfl, hk', hL', HR, hbel⟩ := hrel
    have hEr : wr.cell? ⟨0, 0, none⟩ = some (EM ea) := by rw [hbel.cell (p := ⟨0, 0, none⟩) hE0]; exact hE
    have htr := Txt.mono HT.out hbel
    by_cases hlt : k' < n
    · have hck := htr.cell k' (by rw [HN.out]; exact hlt)
      have HTR : Hid _ := htr
      clear htr
      obtain ⟨z, hz⟩ : ∃ z, xs.getD k' 0 = z := ⟨_, rfl⟩
      rw [hz] at hck
      have HZ' : Hid _ := hz
      clear hz
      rcases HR.out with ⟨hL0, hkk⟩ | hNest
      · subst hkk
        have HL0 : Hid (L = 0) := hL0
        have hLz : L ≤ 0 := by omega
        have hLe : ((L : Int) == 0) = true := by simp; omega
        clear HR hL0
        have hzz : z0 = z := by rw [← HZ.out, ← HZ'.out]
        have hn34 : z ≠ 34 := by rw [← HZ'.out]; exact H34.out
        have e34 : (z == 34) = false := by simpa using hn34
        by_cases hop : z = 123 ∨ z = 91
        · have HNS : Hid (VRel xs k' (k' + 1) (L + 1)) := .inr (by rw [HL0.out]; exact v_open (by rw [HN.out]; exact hlt) HW.out H34.out (by rw [HZ'.out]; exact hop))
          clear hn34 e34 hzz HZ HZ'
          rcases hop with rfl | rfl
          all_goals
            go_wp2
            go_roundw
            case rel => exact ⟨k' + 1, L + 1, max d ((L : Int) + 1), by go_num, rfl, by omega, by omega, rfl, by go_num, by omega, by omega, HNS, hbel⟩
            case measure => simp [intOf]; omega
        · by_cases hcl : z = 125 ∨ z = 93
          · have HV : Hid (VErr xs k') := v_fol (by rw [HN.out]; exact hlt) HW.out H34.out (by rw [HZ'.out]; exact hop) (by rw [HZ'.out]; rcases hcl with rfl | rfl <;> decide)
            clear hn34 e34 hzz HZ HZ' hop
            rcases hcl with rfl | rfl
            all_goals
              go_wp2_with fail
              go_quiet (fail)
              go_wp2
              go_ret3
              exact ⟨.inr ⟨rfl, HV.out⟩, below_draws hbel _⟩
          · have e1 : (z == 123) = false := by have : z ≠ 123 := fun h => hop (.inl h); simpa using this
            have e2 : (z == 91) = false := by have : z ≠ 91 := fun h => hop (.inr h); simpa using this
            have e3 : (z == 125) = false := by have : z ≠ 125 := fun h => hcl (.inl h); simpa using this
            have e4 : (z == 93) = false := by have : z ≠ 93 := fun h => hcl (.inr h); simpa using this
            have HOP : Hid (¬ (xs.getD k' 0 = 123 ∨ xs.getD k' 0 = 91)) := by rw [HZ'.out]; exact hop
            have hLd : decide (0 < (L : Int)) = false := by simp; omega
            have hLd2 : decide (0 < L) = false := by simp; omega
            clear hn34 hop hcl hzz HZ HZ'
            go_wp2_with fail
            go_loop [10] (fun i => ∃ r : Nat, i = .int .i64 r ∧ k' ≤ r ∧ r ≤ n ∧ Hid (∀ j, k' ≤ j → j < r → fol (xs.getD j 0) = false)) (fun i => n - (intOf i).toNat)
            case atStart => exact ⟨k', rfl, Nat.le_refl _, by omega, fun j h1 h2 => absurd h2 (by omega)⟩
            case round =>
              obtain ⟨r, rfl, hkr, hrn, HF⟩ := hrel
              by_cases hrl : r < n
              · have hcr := HTR.out.cell r (by rw [HN.out]; exact hrl)
                have hfv := fun w => follows_any (xs.getD r 0) w
                by_cases hff : fol (xs.getD r 0) = true
                · rw [hff] at hfv
                  by_cases hrk : r = k'
                  · have HV : Hid (VErr xs k') := v_fol (by rw [HN.out]; exact hlt) HW.out H34.out HOP.out (by rw [← hrk]; exact hff)
                    have er : ((r : Int) == (k' : Int)) = true := by simp; omega
                    clear hff HF
                    generalize xs.getD r 0 = y at *
                    clear hrk
                    go_wp2_with (go_at_call 18; refine (hfv _).mono ?_; rintro e w' ⟨rfl, hw⟩; have hw2 := hw.symm; subst hw2; clear hw)
                    go_quiet (fail)
                    go_wp2
                    go_ret3
                    exact ⟨.inr ⟨rfl, HV.out⟩, below_draws hbel _⟩
                  · have HV : Hid (VOk xs k' r) := v_bare (by rw [HN.out]; exact hlt) HW.out H34.out HOP.out (by omega) (by rw [HN.out]; exact hrn) HF.out (fun _ => hff)
                    have er : ((r : Int) == (k' : Int)) = false := by simp; omega
                    clear hff HF hrk
                    generalize xs.getD r 0 = y at *
                    go_wp2_with (go_at_call 18; refine (hfv _).mono ?_; rintro e w' ⟨rfl, hw⟩; have hw2 := hw.symm; subst hw2; clear hw)
                    go_ret3
                    exact ⟨.inl ⟨r, 0, rfl, HV.out⟩, hbel⟩
                · have hff' : fol (xs.getD r 0) = false := by simpa using hff
                  rw [hff'] at hfv
                  have HF' : Hid (∀ j, k' ≤ j → j < r + 1 → fol (xs.getD j 0) = false) := fun j h1 h2 => by
                    rcases Nat.lt_or_eq_of_le (Nat.le_of_lt_succ h2) with h' | h'
                    · exact HF.out j h1 h'
                    · rw [h']; exact hff'
                  clear hff hff' HF
                  generalize xs.getD r 0 = y at *
                  go_wp2_with (go_at_call 18; refine (hfv _).mono ?_; rintro e w' ⟨rfl, hw⟩; have hw2 := hw.symm; subst hw2; clear hw)
                  go_round
                  case rel => exact ⟨r + 1, by go_num, by omega, by omega, HF'⟩
                  case measure => simp [intOf]; omega
              · have HV : Hid (VOk xs k' r) := v_bare (by rw [HN.out]; exact hlt) HW.out H34.out HOP.out (by omega) (by rw [HN.out]; exact hrn) HF.out (fun h => absurd h (by rw [HN.out]; exact hrl))
                have er : ((r : Int) == (k' : Int)) = false := by simp; omega
                clear HF
                go_wp2_with fail
                go_ret3
                exact ⟨.inl ⟨r, 0, rfl, HV.out⟩, hbel⟩
      · have hL1 : 1 ≤ L := hNest.2.2.1
        have hLi : ((L : Int) == 0) = false := by simp; omega
        have HNE : Hid _ := hNest
        clear hNest HR HZ
        by_cases h34 : z = 34
        · have hS := send_any b n k' xs wr ea hEr HN.out hlt HTR.out
          have H3 : Hid (xs.getD k' 0 = 34) := by rw [HZ'.out]; exact h34
          subst h34
          clear HZ'
          go_wp2_with fail
          refine hS.mono ?_
          rintro e w1 ⟨h | ⟨rfl, hno⟩, hb⟩
          · obtain ⟨r, rfl, hs⟩ := h
            have HNS : Hid (VRel xs k r L) := .inr (n_str_ok HNE.out (by rw [HN.out]; exact hlt) H3.out hs)
            have hb1 := bnd HNS.out (by rw [HN.out]; omega)
            rw [HN.out] at hb1
            have hrk : k' < r := by obtain ⟨dd, hr, _⟩ := hs.at'; omega
            have hbw : Below w.heap.size w w1 := hbel.trans (hb.mono hbel.size)
            clear hs hb hS
            go_wp2
            go_roundw
            case rel => exact ⟨r, L, d, rfl, rfl, hd0, hd1, rfl, rfl, hb1.1, hb1.2, HNS, hbw⟩
            case measure => simp [intOf]; omega
          · have HV : Hid (VErr xs k) := n_str_no HNE.out (by rw [HN.out]; exact hlt) H3.out hno
            have hbw : Below w.heap.size w w1 := hbel.trans (hb.mono hbel.size)
            clear hno hb hS
            go_wp2
            go_ret3
            exact ⟨.inr ⟨rfl, HV.out⟩, hbw⟩
        · have e34 : (z == 34) = false := by simpa using h34
          have H3 : Hid (xs.getD k' 0 ≠ 34) := by rw [HZ'.out]; exact h34
          clear h34
          by_cases hop : z = 123 ∨ z = 91
          · have HNS : Hid (VRel xs k (k' + 1) (L + 1)) := .inr (n_open HNE.out (by rw [HN.out]; exact hlt) H3.out (by rw [HZ'.out]; exact hop))
            clear HZ' e34
            rcases hop with rfl | rfl
            all_goals
              go_wp2
              go_roundw
              case rel => exact ⟨k' + 1, L + 1, max d ((L : Int) + 1), by go_num, rfl, by omega, by omega, rfl, by go_num, by omega, by omega, HNS, hbel⟩
              case measure => simp [intOf]; omega
          · have H4 : Hid (¬ (xs.getD k' 0 = 123 ∨ xs.getD k' 0 = 91)) := by rw [HZ'.out]; exact hop
            by_cases hcl : z = 125 ∨ z = 93
            · by_cases hL : L = 1
              · have HV : Hid (VOk xs k (k' + 1)) := n_last HNE.out (by rw [HN.out]; exact hlt) H3.out H4.out (by rw [HZ'.out]; exact hcl) hL
                subst hL
                clear HZ' e34 hop
                rcases hcl with rfl | rfl
                all_goals
                  go_wp2
                  go_ret3
                  exact ⟨.inl ⟨k' + 1, d, by go_num, HV.out⟩, hbel⟩
              · have HNS : Hid (VRel xs k (k' + 1) (L - 1)) := .inr (n_shut HNE.out (by rw [HN.out]; exact hlt) H3.out H4.out (by rw [HZ'.out]; exact hcl) (by omega))
                have hL2 : ((L : Int) - 1 == 0) = false := by simp; omega
                clear HZ' e34 hop hL
                rcases hcl with rfl | rfl
                all_goals
                  go_wp2
                  go_roundw
                  case rel => exact ⟨k' + 1, L - 1, d, by go_num, rfl, hd0, hd1, rfl, by go_num, by omega, by omega, HNS, hbel⟩
                  case measure => simp [intOf]; omega
            · have HNS : Hid (VRel xs k (k' + 1) L) := .inr (n_other HNE.out (by rw [HN.out]; exact hlt) H3.out H4.out (by rw [HZ'.out]; exact hcl))
              have e1 : (z == 123) = false := by have : z ≠ 123 := fun h => hop (.inl h); simpa using this
              have e2 : (z == 91) = false := by have : z ≠ 91 := fun h => hop (.inr h); simpa using this
              have e3 : (z == 125) = false := by have : z ≠ 125 := fun h => hcl (.inl h); simpa using this
              have e4 : (z == 93) = false := by have : z ≠ 93 := fun h => hcl (.inr h); simpa using this
              clear HZ' hop hcl
              go_wp2
              go_roundw
              case rel => exact ⟨k' + 1, L, d, by go_num, rfl, hd0, hd1, rfl, rfl, by omega, by omega, HNS, hbel⟩
              case measure => simp [intOf]; omega
    · have hke : k' = n := by omega
      have HV : Hid (VErr xs k) := by
        rcases HR.out with ⟨_, h⟩ | h
        · omega
        · exact n_end h (by rw [HN.out]; exact hke)
      clear HR htr
      go_wp2_with fail
      go_quiet (fail)
      go_wp2
      go_ret3
      exact ⟨.inr ⟨rfl, HV.out⟩, below_draws hbel _⟩

theorem vend_any (b n k : Nat) (xs : List Int) (w : World) (ea : Addr) (hE : w.cell? ⟨0, 0, none⟩ = some (EM ea)) (hE0 : 0 < w.heap.size) (hn : xs.length = n) (hk : k ≤ n) (ht : Txt w b xs) (hw : k < n → ws (xs.getD k 0) = false) :
    Calls Tryd.prog 16 #[.slice (some ⟨b, 0, none⟩) n n, .int .i64 (k : Int)] w (VPost xs ea k w) := by
  by_cases hkn : k < n
  · by_cases h34 : xs.getD k 0 = 34
    · exact vend_str b n k xs w ea hE hn hkn ht h34
    · exact vend_non b n k xs w ea hE hE0 hn hkn ht (hw hkn) h34
  · obtain rfl : k = n := by omega
    exact vend_end b k xs w ea hE hn (by have := ht.len; omega)

end Go.Proofs.Qxb6608652aDoor
