import Derived.Test.Qxb6608652aDoorMod2
namespace Go.Proofs.Qxb6608652aDoor
set_option linter.unusedVariables false
set_option linter.unusedSimpArgs false
open Go.ChangeShapes Go.WideShapes Go.ChangeAt Go.RowKit

set_option maxHeartbeats 40000000 in
set_option maxRecDepth 100000 in
/-- zzjoModelFields. -/
theorem model_any (b n : Nat) (xs : List Int) (w : World) (hn : xs.length = n) (ht : Txt w b xs) : Calls Tryd.prog 6 #[.slice (some ⟨b, 0, none⟩) n n] w (MPost xs w) := by
  have hle := ht.len
  rw [hn] at hle
  have HN : Hid (xs.length = n) := hn
  have HT : Hid _ := ht
  clear hn ht
  go_enter Tryd.func6, Tryd.ntmps6
  go_wp2
  go_loopw [2, 3, 4, 5, 7, 8, 9, 10, 11, 12, 13, 14] (fun v1 v2 v3 v4 s7 s8 s9 s10 s11 s12 s13 s14 wr => ∃ (st k lv a bb v : Nat) (e i : Bool) (F : List (Nat × Nat × Nat × Nat)), s7 = .int .i64 st ∧ s8 = .bool e ∧ s9 = .bool i ∧ s10 = .int .i64 lv ∧ s11 = .int .i64 a ∧ s12 = .int .i64 bb ∧ s13 = .int .i64 v ∧ s14 = .int .i64 k ∧ Hid (MR xs w wr v1 v2 v3 v4 st k lv a bb v e i F)) (fun _ _ _ _ s7 _ _ _ _ _ _ s14 _ => 20 * (n - (intOf s14).toNat) + (10 - (intOf s7).toNat))
  case atStart => exact ⟨0, 0, 0, 0, 0, 0, false, false, [], rfl, rfl, rfl, rfl, rfl, rfl, rfl, rfl, ⟨rfl, Four.start _ _, Nat.zero_le _, Nat.zero_le _, Nat.zero_le _, fun h => absurd h (by decide), Nat.zero_le _, fun _ => Nat.zero_le _, Below.refl _ _⟩⟩
  case round =>
    obtain ⟨st, k, lv, a, bb, v, e, i, F, rfl, rfl, rfl, rfl, rfl, rfl, rfl, rfl, HR⟩ := hrel
    have hkn : k ≤ n := by rw [← HN.out]; exact HR.out.hk
    have hst : st ≤ 10 := HR.out.st10
    have hlv : lv ≤ k := HR.out.lvk
    rcases Nat.lt_or_ge k n with hk | hk
    · have hcell := (HT.out.low HR.out.bel HT.out.lt).cell k (by rw [HN.out]; exact hk)
      have HK : Hid (k < xs.length) := by have := HN.out; show k < xs.length; omega
      have HZ : Hid _ := drop_at (xs := xs) (k := k) HK.out
      generalize xs.getD k 0 = z at hcell HZ
      have hS : st = 0 ∨ st = 1 ∨ st = 2 ∨ st = 3 ∨ st = 4 ∨ st = 5 ∨ st = 6 ∨ st = 7 ∨ st = 8 ∨ st = 9 ∨ st = 10 := by omega
      rcases hS with rfl | rfl | rfl | rfl | rfl | rfl | rfl | rfl | rfl | rfl | rfl
      · clear hst; have hst : True := trivial
        by_cases h1 : z = 123
        · subst h1
          have HX : Hid _ := MR.next HR.out HK.out HZ.out 1 (lv) (a) (bb) (v) (e) (i) (by rw [run_0, if_pos rfl]) (by decide) (by omega) (fun h => absurd h (by decide))
          clear HR HZ HN HT hst 
          as_aux_lemma =>
          go_wp2_with (first | (go_at_call 10; refine (hA _).mono ?_; rintro e' w' ⟨rfl, hw⟩; have hw2 := hw.symm; subst hw2; clear hw) | (go_at_call 11; refine (hF _).mono ?_; rintro e' w' ⟨rfl, hw⟩; have hw2 := hw.symm; subst hw2; clear hw) | fail)
          exact ⟨⟨1, k + 1, lv, a, bb, v, e, i, F, rfl, rfl, rfl, rfl, rfl, rfl, rfl, rfl, HX⟩, by simp [intOf]; omega⟩
        · have e1 : (z == 123) = false := by simpa using h1
          have hA := fun w => isws_any z w
          by_cases hw : ws z = true
          · rw [hw] at hA
            have HX : Hid _ := MR.next HR.out HK.out HZ.out 0 (lv) (a) (bb) (v) (e) (i) (by rw [run_0, if_neg h1, if_pos hw]) (by decide) (by omega) (fun h => absurd h (by decide))
            clear HR HZ HN HT hst h1 hw
            as_aux_lemma =>
            go_wp2_with (first | (go_at_call 10; refine (hA _).mono ?_; rintro e' w' ⟨rfl, hw⟩; have hw2 := hw.symm; subst hw2; clear hw) | (go_at_call 11; refine (hF _).mono ?_; rintro e' w' ⟨rfl, hw⟩; have hw2 := hw.symm; subst hw2; clear hw) | fail)
            exact ⟨⟨0, k + 1, lv, a, bb, v, e, i, F, rfl, rfl, rfl, rfl, rfl, rfl, rfl, rfl, HX⟩, by simp [intOf]; omega⟩
          · have hwf : ws z = false := by simpa using hw
            rw [hwf] at hA
            have HY : Hid _ := MR.tot HR.out HZ.out (G := F) (fl := true) (by rw [run_0, if_neg h1, if_neg hw])
            have H4 : Hid _ := HR.out.four
            have HB : Hid _ := HR.out.bel
            clear HR HZ HN HT hst h1 hw hwf
            as_aux_lemma =>
            go_wp2_with (first | (go_at_call 10; refine (hA _).mono ?_; rintro e' w' ⟨rfl, hw⟩; have hw2 := hw.symm; subst hw2; clear hw) | (go_at_call 11; refine (hF _).mono ?_; rintro e' w' ⟨rfl, hw⟩; have hw2 := hw.symm; subst hw2; clear hw) | fail)
            exact bodyPost_ret (v := .tuple #[u2, u3, u4, u5, .bool true]) (by simp [results, Tryd.results6, go_sem]) rfl ⟨_, _, _, _, F, true, rfl, HY.out, H4.out, HB.out⟩
      · clear hst; have hst : True := trivial
        by_cases h1 : z = 34
        · subst h1
          have HX : Hid _ := MR.next HR.out HK.out HZ.out 2 (lv) (k) (bb) (v) (false) (i) (by rw [run_1, if_pos rfl]) (by decide) (by omega) (fun h => absurd h (by decide))
          clear HR HZ HN HT hst 
          as_aux_lemma =>
          go_wp2_with (first | (go_at_call 10; refine (hA _).mono ?_; rintro e' w' ⟨rfl, hw⟩; have hw2 := hw.symm; subst hw2; clear hw) | (go_at_call 11; refine (hF _).mono ?_; rintro e' w' ⟨rfl, hw⟩; have hw2 := hw.symm; subst hw2; clear hw) | fail)
          exact ⟨⟨2, k + 1, lv, k, bb, v, false, i, F, rfl, rfl, rfl, rfl, rfl, rfl, rfl, rfl, HX⟩, by simp [intOf]; omega⟩
        · have e1 : (z == 34) = false := by simpa using h1
          by_cases h2 : z = 125
          · subst h2
            have HX : Hid _ := MR.next HR.out HK.out HZ.out 10 (lv) (a) (bb) (v) (e) (i) (by rw [run_1, if_neg (by decide), if_pos rfl, run_done]) (by decide) (by omega) (fun h => absurd h (by decide))
            clear HR HZ HN HT hst e1 h1
            as_aux_lemma =>
            go_wp2_with (first | (go_at_call 10; refine (hA _).mono ?_; rintro e' w' ⟨rfl, hw⟩; have hw2 := hw.symm; subst hw2; clear hw) | (go_at_call 11; refine (hF _).mono ?_; rintro e' w' ⟨rfl, hw⟩; have hw2 := hw.symm; subst hw2; clear hw) | fail)
            exact ⟨⟨10, k + 1, lv, a, bb, v, e, i, F, rfl, rfl, rfl, rfl, rfl, rfl, rfl, rfl, HX⟩, by simp [intOf]; omega⟩
          · have e2 : (z == 125) = false := by simpa using h2
            have hA := fun w => isws_any z w
            by_cases hw : ws z = true
            · rw [hw] at hA
              have HX : Hid _ := MR.next HR.out HK.out HZ.out 1 (lv) (a) (bb) (v) (e) (i) (by rw [run_1, if_neg h1, if_neg h2, if_pos hw]) (by decide) (by omega) (fun h => absurd h (by decide))
              clear HR HZ HN HT hst h1 h2 hw
              as_aux_lemma =>
              go_wp2_with (first | (go_at_call 10; refine (hA _).mono ?_; rintro e' w' ⟨rfl, hw⟩; have hw2 := hw.symm; subst hw2; clear hw) | (go_at_call 11; refine (hF _).mono ?_; rintro e' w' ⟨rfl, hw⟩; have hw2 := hw.symm; subst hw2; clear hw) | fail)
              exact ⟨⟨1, k + 1, lv, a, bb, v, e, i, F, rfl, rfl, rfl, rfl, rfl, rfl, rfl, rfl, HX⟩, by simp [intOf]; omega⟩
            · have hwf : ws z = false := by simpa using hw
              rw [hwf] at hA
              have HY : Hid _ := MR.tot HR.out HZ.out (G := F) (fl := true) (by rw [run_1, if_neg h1, if_neg h2, if_neg hw])
              have H4 : Hid _ := HR.out.four
              have HB : Hid _ := HR.out.bel
              clear HR HZ HN HT hst h1 h2 hw hwf
              as_aux_lemma =>
              go_wp2_with (first | (go_at_call 10; refine (hA _).mono ?_; rintro e' w' ⟨rfl, hw⟩; have hw2 := hw.symm; subst hw2; clear hw) | (go_at_call 11; refine (hF _).mono ?_; rintro e' w' ⟨rfl, hw⟩; have hw2 := hw.symm; subst hw2; clear hw) | fail)
              exact bodyPost_ret (v := .tuple #[u2, u3, u4, u5, .bool true]) (by simp [results, Tryd.results6, go_sem]) rfl ⟨_, _, _, _, F, true, rfl, HY.out, H4.out, HB.out⟩
      · clear hst; have hst : True := trivial
        cases e
        · skip
          by_cases h1 : z = 92
          · subst h1
            have HX : Hid _ := MR.next HR.out HK.out HZ.out 2 (lv) (a) (bb) (v) (true) (i) (by rw [run_2, if_neg (by decide), if_pos rfl]) (by decide) (by omega) (fun h => absurd h (by decide))
            clear HR HZ HN HT hst 
            as_aux_lemma =>
            go_wp2_with (first | (go_at_call 10; refine (hA _).mono ?_; rintro e' w' ⟨rfl, hw⟩; have hw2 := hw.symm; subst hw2; clear hw) | (go_at_call 11; refine (hF _).mono ?_; rintro e' w' ⟨rfl, hw⟩; have hw2 := hw.symm; subst hw2; clear hw) | fail)
            exact ⟨⟨2, k + 1, lv, a, bb, v, true, i, F, rfl, rfl, rfl, rfl, rfl, rfl, rfl, rfl, HX⟩, by simp [intOf]; omega⟩
          · have e1 : (z == 92) = false := by simpa using h1
            by_cases h2 : z = 34
            · subst h2
              have HX : Hid _ := MR.next HR.out HK.out HZ.out 3 (lv) (a) (k + 1) (v) (false) (i) (by rw [run_2, if_neg (by decide), if_neg (by decide), if_pos rfl]) (by decide) (by omega) (fun h => absurd h (by decide))
              clear HR HZ HN HT hst h1 e1
              as_aux_lemma =>
              go_wp2_with (first | (go_at_call 10; refine (hA _).mono ?_; rintro e' w' ⟨rfl, hw⟩; have hw2 := hw.symm; subst hw2; clear hw) | (go_at_call 11; refine (hF _).mono ?_; rintro e' w' ⟨rfl, hw⟩; have hw2 := hw.symm; subst hw2; clear hw) | fail)
              exact ⟨⟨3, k + 1, lv, a, k + 1, v, false, i, F, rfl, rfl, rfl, rfl, rfl, rfl, rfl, rfl, HX⟩, by simp [intOf]; omega⟩
            · have e2 : (z == 34) = false := by simpa using h2
              have HX : Hid _ := MR.next HR.out HK.out HZ.out 2 (lv) (a) (bb) (v) (false) (i) (by rw [run_2, if_neg (by decide), if_neg h1, if_neg h2]) (by decide) (by omega) (fun h => absurd h (by decide))
              clear HR HZ HN HT hst h1 h2
              as_aux_lemma =>
              go_wp2_with (first | (go_at_call 10; refine (hA _).mono ?_; rintro e' w' ⟨rfl, hw⟩; have hw2 := hw.symm; subst hw2; clear hw) | (go_at_call 11; refine (hF _).mono ?_; rintro e' w' ⟨rfl, hw⟩; have hw2 := hw.symm; subst hw2; clear hw) | fail)
              exact ⟨⟨2, k + 1, lv, a, bb, v, false, i, F, rfl, rfl, rfl, rfl, rfl, rfl, rfl, rfl, HX⟩, by simp [intOf]; omega⟩
        · skip
          have HX : Hid _ := MR.next HR.out HK.out HZ.out 2 (lv) (a) (bb) (v) (false) (i) (by rw [run_2, if_pos rfl]) (by decide) (by omega) (fun h => absurd h (by decide))
          clear HR HZ HN HT hst 
          as_aux_lemma =>
          go_wp2_with (first | (go_at_call 10; refine (hA _).mono ?_; rintro e' w' ⟨rfl, hw⟩; have hw2 := hw.symm; subst hw2; clear hw) | (go_at_call 11; refine (hF _).mono ?_; rintro e' w' ⟨rfl, hw⟩; have hw2 := hw.symm; subst hw2; clear hw) | fail)
          exact ⟨⟨2, k + 1, lv, a, bb, v, false, i, F, rfl, rfl, rfl, rfl, rfl, rfl, rfl, rfl, HX⟩, by simp [intOf]; omega⟩
      · clear hst; have hst : True := trivial
        by_cases h1 : z = 58
        · subst h1
          have HX : Hid _ := MR.next HR.out HK.out HZ.out 4 (lv) (a) (bb) (v) (e) (i) (by rw [run_3, if_pos rfl]) (by decide) (by omega) (fun h => absurd h (by decide))
          clear HR HZ HN HT hst 
          as_aux_lemma =>
          go_wp2_with (first | (go_at_call 10; refine (hA _).mono ?_; rintro e' w' ⟨rfl, hw⟩; have hw2 := hw.symm; subst hw2; clear hw) | (go_at_call 11; refine (hF _).mono ?_; rintro e' w' ⟨rfl, hw⟩; have hw2 := hw.symm; subst hw2; clear hw) | fail)
          exact ⟨⟨4, k + 1, lv, a, bb, v, e, i, F, rfl, rfl, rfl, rfl, rfl, rfl, rfl, rfl, HX⟩, by simp [intOf]; omega⟩
        · have e1 : (z == 58) = false := by simpa using h1
          have hA := fun w => isws_any z w
          by_cases hw : ws z = true
          · rw [hw] at hA
            have HX : Hid _ := MR.next HR.out HK.out HZ.out 3 (lv) (a) (bb) (v) (e) (i) (by rw [run_3, if_neg h1, if_pos hw]) (by decide) (by omega) (fun h => absurd h (by decide))
            clear HR HZ HN HT hst h1 hw
            as_aux_lemma =>
            go_wp2_with (first | (go_at_call 10; refine (hA _).mono ?_; rintro e' w' ⟨rfl, hw⟩; have hw2 := hw.symm; subst hw2; clear hw) | (go_at_call 11; refine (hF _).mono ?_; rintro e' w' ⟨rfl, hw⟩; have hw2 := hw.symm; subst hw2; clear hw) | fail)
            exact ⟨⟨3, k + 1, lv, a, bb, v, e, i, F, rfl, rfl, rfl, rfl, rfl, rfl, rfl, rfl, HX⟩, by simp [intOf]; omega⟩
          · have hwf : ws z = false := by simpa using hw
            rw [hwf] at hA
            have HY : Hid _ := MR.tot HR.out HZ.out (G := F) (fl := true) (by rw [run_3, if_neg h1, if_neg hw])
            have H4 : Hid _ := HR.out.four
            have HB : Hid _ := HR.out.bel
            clear HR HZ HN HT hst h1 hw hwf
            as_aux_lemma =>
            go_wp2_with (first | (go_at_call 10; refine (hA _).mono ?_; rintro e' w' ⟨rfl, hw⟩; have hw2 := hw.symm; subst hw2; clear hw) | (go_at_call 11; refine (hF _).mono ?_; rintro e' w' ⟨rfl, hw⟩; have hw2 := hw.symm; subst hw2; clear hw) | fail)
            exact bodyPost_ret (v := .tuple #[u2, u3, u4, u5, .bool true]) (by simp [results, Tryd.results6, go_sem]) rfl ⟨_, _, _, _, F, true, rfl, HY.out, H4.out, HB.out⟩
      · clear hst; have hst : True := trivial
        have hA := fun w => isws_any z w
        by_cases hw : ws z = true
        · rw [hw] at hA
          have HX : Hid _ := MR.next HR.out HK.out HZ.out 4 (lv) (a) (bb) (v) (e) (i) (by rw [run_4, if_pos hw]) (by decide) (by omega) (fun h => absurd h (by decide))
          clear HR HZ HN HT hst hw
          as_aux_lemma =>
          go_wp2_with (first | (go_at_call 10; refine (hA _).mono ?_; rintro e' w' ⟨rfl, hw⟩; have hw2 := hw.symm; subst hw2; clear hw) | (go_at_call 11; refine (hF _).mono ?_; rintro e' w' ⟨rfl, hw⟩; have hw2 := hw.symm; subst hw2; clear hw) | fail)
          exact ⟨⟨4, k + 1, lv, a, bb, v, e, i, F, rfl, rfl, rfl, rfl, rfl, rfl, rfl, rfl, HX⟩, by simp [intOf]; omega⟩
        · have hwf : ws z = false := by simpa using hw
          rw [hwf] at hA
          by_cases h1 : z = 34
          · subst h1
            have HX : Hid _ := MR.next HR.out HK.out HZ.out 5 (lv) (a) (bb) (k) (false) (i) (by rw [run_4, if_neg hw, if_pos rfl]) (by decide) (by omega) (fun h => absurd h (by decide))
            clear HR HZ HN HT hst hw hwf
            as_aux_lemma =>
            go_wp2_with (first | (go_at_call 10; refine (hA _).mono ?_; rintro e' w' ⟨rfl, hw⟩; have hw2 := hw.symm; subst hw2; clear hw) | (go_at_call 11; refine (hF _).mono ?_; rintro e' w' ⟨rfl, hw⟩; have hw2 := hw.symm; subst hw2; clear hw) | fail)
            exact ⟨⟨5, k + 1, lv, a, bb, k, false, i, F, rfl, rfl, rfl, rfl, rfl, rfl, rfl, rfl, HX⟩, by simp [intOf]; omega⟩
          · have e1 : (z == 34) = false := by simpa using h1
            by_cases h2 : z = 123
            · subst h2
              have HX : Hid _ := MR.next HR.out HK.out HZ.out 6 (1) (a) (bb) (k) (e) (false) (by rw [run_4, if_neg hw, if_neg (by decide), if_pos (Or.inl rfl)]) (by decide) (by omega) (fun _ => by omega)
              clear HR HZ HN HT hst hw hwf h1 e1
              as_aux_lemma =>
              go_wp2_with (first | (go_at_call 10; refine (hA _).mono ?_; rintro e' w' ⟨rfl, hw⟩; have hw2 := hw.symm; subst hw2; clear hw) | (go_at_call 11; refine (hF _).mono ?_; rintro e' w' ⟨rfl, hw⟩; have hw2 := hw.symm; subst hw2; clear hw) | fail)
              exact ⟨⟨6, k + 1, 1, a, bb, k, e, false, F, rfl, rfl, rfl, rfl, rfl, rfl, rfl, rfl, HX⟩, by simp [intOf]; omega⟩
            · have e2 : (z == 123) = false := by simpa using h2
              by_cases h3 : z = 91
              · subst h3
                have HX : Hid _ := MR.next HR.out HK.out HZ.out 6 (1) (a) (bb) (k) (e) (false) (by rw [run_4, if_neg hw, if_neg (by decide), if_pos (Or.inr rfl)]) (by decide) (by omega) (fun _ => by omega)
                clear HR HZ HN HT hst hw hwf h1 e1 h2 e2
                as_aux_lemma =>
                go_wp2_with (first | (go_at_call 10; refine (hA _).mono ?_; rintro e' w' ⟨rfl, hw⟩; have hw2 := hw.symm; subst hw2; clear hw) | (go_at_call 11; refine (hF _).mono ?_; rintro e' w' ⟨rfl, hw⟩; have hw2 := hw.symm; subst hw2; clear hw) | fail)
                exact ⟨⟨6, k + 1, 1, a, bb, k, e, false, F, rfl, rfl, rfl, rfl, rfl, rfl, rfl, rfl, HX⟩, by simp [intOf]; omega⟩
              · have e3 : (z == 91) = false := by simpa using h3
                have hF := fun w => zfollows_any z w
                by_cases hf : fol z = true
                · rw [hf] at hF
                  have HY : Hid _ := MR.tot HR.out HZ.out (G := F) (fl := true) (by rw [run_4, if_neg hw, if_neg h1, if_neg (by omega), if_pos hf])
                  have H4 : Hid _ := HR.out.four
                  have HB : Hid _ := HR.out.bel
                  clear HR HZ HN HT hst h1 h2 h3 hw hwf hf
                  as_aux_lemma =>
                  go_wp2_with (first | (go_at_call 10; refine (hA _).mono ?_; rintro e' w' ⟨rfl, hw⟩; have hw2 := hw.symm; subst hw2; clear hw) | (go_at_call 11; refine (hF _).mono ?_; rintro e' w' ⟨rfl, hw⟩; have hw2 := hw.symm; subst hw2; clear hw) | fail)
                  exact bodyPost_ret (v := .tuple #[u2, u3, u4, u5, .bool true]) (by simp [results, Tryd.results6, go_sem]) rfl ⟨_, _, _, _, F, true, rfl, HY.out, H4.out, HB.out⟩
                · have hff : fol z = false := by simpa using hf
                  rw [hff] at hF
                  have HX : Hid _ := MR.next HR.out HK.out HZ.out 7 (lv) (a) (bb) (k) (e) (i) (by rw [run_4, if_neg hw, if_neg h1, if_neg (by omega), if_neg hf]) (by decide) (by omega) (fun h => absurd h (by decide))
                  clear HR HZ HN HT hst h1 h2 h3 hw hwf hf hff
                  as_aux_lemma =>
                  go_wp2_with (first | (go_at_call 10; refine (hA _).mono ?_; rintro e' w' ⟨rfl, hw⟩; have hw2 := hw.symm; subst hw2; clear hw) | (go_at_call 11; refine (hF _).mono ?_; rintro e' w' ⟨rfl, hw⟩; have hw2 := hw.symm; subst hw2; clear hw) | fail)
                  exact ⟨⟨7, k + 1, lv, a, bb, k, e, i, F, rfl, rfl, rfl, rfl, rfl, rfl, rfl, rfl, HX⟩, by simp [intOf]; omega⟩
      · clear hst; have hst : True := trivial
        cases e
        · skip
          by_cases h1 : z = 92
          · subst h1
            have HX : Hid _ := MR.next HR.out HK.out HZ.out 5 (lv) (a) (bb) (v) (true) (i) (by rw [run_5, if_neg (by decide), if_pos rfl]) (by decide) (by omega) (fun h => absurd h (by decide))
            clear HR HZ HN HT hst 
            as_aux_lemma =>
            go_wp2_with (first | (go_at_call 10; refine (hA _).mono ?_; rintro e' w' ⟨rfl, hw⟩; have hw2 := hw.symm; subst hw2; clear hw) | (go_at_call 11; refine (hF _).mono ?_; rintro e' w' ⟨rfl, hw⟩; have hw2 := hw.symm; subst hw2; clear hw) | fail)
            exact ⟨⟨5, k + 1, lv, a, bb, v, true, i, F, rfl, rfl, rfl, rfl, rfl, rfl, rfl, rfl, HX⟩, by simp [intOf]; omega⟩
          · have e1 : (z == 92) = false := by simpa using h1
            by_cases h2 : z = 34
            · subst h2
              have hY : total xs = run (xs.drop (k + 1)) (k + 1) 8 false i (lv) a bb v (F ++ [(a, bb, v, k + 1)]) := by rw [HR.out.eq, HZ.out, run_5, if_neg (by decide), if_neg (by decide), if_pos rfl]
              have HY : Hid _ := hY
              clear hY
              have hFl : F.length ≤ 2 * k + 1 := HR.out.len
              have H4 : Hid _ := HR.out.four
              have HB : Hid _ := HR.out.bel
              clear HZ HT hst h1 e1
              as_aux_lemma =>
              obtain ⟨i0, hi, hz0, hz1, hz2⟩ := info_parts Tryd.info3
              have hl1 : (c1 F).length ≤ 4194304 := by rw [c1_len]; omega
              have hl2 : (c2 F).length ≤ 4194304 := by rw [c2_len]; omega
              have hl3 : (c3 F).length ≤ 4194304 := by rw [c3_len]; omega
              have hl4 : (c4 F).length ≤ 4194304 := by rw [c4_len]; omega
              have hsz : w.heap.size ≤ wr.heap.size := HB.out.size
              go_wp2_with (first | (go_at_call 11; refine (hF _).mono ?_; rintro e' w' ⟨rfl, hw⟩; have hw2 := hw.symm; subst hw2; clear hw) | (at_builtin; go_loud (refine wpList_append_one _ rfl (.tmp 107) (.tmp 109) 27 rfl w.heap.size 3 i0 (.int .i64 0) 8 Tryd.underlying27 hi hz0 hz1 hz2 rfl _ _ _ rfl (H4.out.alloc _).o1 ⟨wr.heap.size, 0, none⟩ 1 _ rfl (news_one _ _ _) (one_int _) (by unfold maxLen; omega) (by omega) (by simp; omega) ?_)))
              intro q1 w1 ho hg hp
              obtain ⟨hf, hb⟩ := Four.app1 H4.out HB.out ho hg hp
              have hsz1 : w.heap.size ≤ w1.heap.size := hb.size
              have H41 : Hid _ := hf
              have HB1 : Hid _ := hb
              clear hf hb ho hg hp H4 HB
              go_wp2_with ((at_builtin; go_loud (refine wpList_append_one _ rfl (.tmp 111) (.tmp 113) 27 rfl w.heap.size 3 i0 (.int .i64 0) 8 Tryd.underlying27 hi hz0 hz1 hz2 rfl _ _ _ rfl (H41.out.alloc _).o2 ⟨w1.heap.size, 0, none⟩ 1 _ rfl (news_one _ _ _) (one_int _) (by unfold maxLen; omega) (by omega) (by simp; omega) ?_)))
              intro q2 w2 ho hg hp
              obtain ⟨hf, hb⟩ := Four.app2 H41.out HB1.out ho hg hp
              have hsz2 : w.heap.size ≤ w2.heap.size := hb.size
              have H42 : Hid _ := hf
              have HB2 : Hid _ := hb
              clear hf hb ho hg hp H41 HB1
              go_wp2_with ((at_builtin; go_loud (refine wpList_append_one _ rfl (.tmp 115) (.tmp 117) 27 rfl w.heap.size 3 i0 (.int .i64 0) 8 Tryd.underlying27 hi hz0 hz1 hz2 rfl _ _ _ rfl (H42.out.alloc _).o3 ⟨w2.heap.size, 0, none⟩ 1 _ rfl (news_one _ _ _) (one_int _) (by unfold maxLen; omega) (by omega) (by simp; omega) ?_)))
              intro q3 w3 ho hg hp
              obtain ⟨hf, hb⟩ := Four.app3 H42.out HB2.out ho hg hp
              have hsz3 : w.heap.size ≤ w3.heap.size := hb.size
              have H43 : Hid _ := hf
              have HB3 : Hid _ := hb
              clear hf hb ho hg hp H42 HB2
              go_wp2_with ((at_builtin; go_loud (refine wpList_append_one _ rfl (.tmp 119) (.tmp 122) 27 rfl w.heap.size 3 i0 (.int .i64 0) 8 Tryd.underlying27 hi hz0 hz1 hz2 rfl _ _ _ rfl (H43.out.alloc _).o4 ⟨w3.heap.size, 0, none⟩ 1 _ rfl (news_one _ _ _) (one_int _) (by unfold maxLen; omega) (by omega) (by simp; omega) ?_)))
              intro q4 w4 ho hg hp
              obtain ⟨hf, hb⟩ := Four.app4 H43.out HB3.out ho hg hp
              have hsz4 : w.heap.size ≤ w4.heap.size := hb.size
              have H44 : Hid _ := hf
              have HB4 : Hid _ := hb
              clear hf hb ho hg hp H43 HB3
              go_wp2_with (first | (go_at_call 10; refine (hA _).mono ?_; rintro e' w' ⟨rfl, hw⟩; have hw2 := hw.symm; subst hw2; clear hw) | (go_at_call 11; refine (hF _).mono ?_; rintro e' w' ⟨rfl, hw⟩; have hw2 := hw.symm; subst hw2; clear hw) | fail)
              have HX : Hid _ := MR.snoc (k' := k + 1) (r := k + 1) HR.out H44.out HB4.out HY.out (by decide) (by omega) (by rw [HN.out]; omega) (by omega)
              exact ⟨⟨8, k + 1, lv, a, bb, v, false, i, F ++ [(a, bb, v, k + 1)], rfl, rfl, rfl, rfl, rfl, rfl, rfl, rfl, HX⟩, by simp [intOf]; omega⟩
            · have e2 : (z == 34) = false := by simpa using h2
              have HX : Hid _ := MR.next HR.out HK.out HZ.out 5 (lv) (a) (bb) (v) (false) (i) (by rw [run_5, if_neg (by decide), if_neg h1, if_neg h2]) (by decide) (by omega) (fun h => absurd h (by decide))
              clear HR HZ HN HT hst h1 h2
              as_aux_lemma =>
              go_wp2_with (first | (go_at_call 10; refine (hA _).mono ?_; rintro e' w' ⟨rfl, hw⟩; have hw2 := hw.symm; subst hw2; clear hw) | (go_at_call 11; refine (hF _).mono ?_; rintro e' w' ⟨rfl, hw⟩; have hw2 := hw.symm; subst hw2; clear hw) | fail)
              exact ⟨⟨5, k + 1, lv, a, bb, v, false, i, F, rfl, rfl, rfl, rfl, rfl, rfl, rfl, rfl, HX⟩, by simp [intOf]; omega⟩
        · skip
          have HX : Hid _ := MR.next HR.out HK.out HZ.out 5 (lv) (a) (bb) (v) (false) (i) (by rw [run_5, if_pos rfl]) (by decide) (by omega) (fun h => absurd h (by decide))
          clear HR HZ HN HT hst 
          as_aux_lemma =>
          go_wp2_with (first | (go_at_call 10; refine (hA _).mono ?_; rintro e' w' ⟨rfl, hw⟩; have hw2 := hw.symm; subst hw2; clear hw) | (go_at_call 11; refine (hF _).mono ?_; rintro e' w' ⟨rfl, hw⟩; have hw2 := hw.symm; subst hw2; clear hw) | fail)
          exact ⟨⟨5, k + 1, lv, a, bb, v, false, i, F, rfl, rfl, rfl, rfl, rfl, rfl, rfl, rfl, HX⟩, by simp [intOf]; omega⟩
      · clear hst; have hst : True := trivial
        have hlv1 : 1 ≤ lv := HR.out.lv1 rfl
        cases i
        · skip
          by_cases h1 : z = 34
          · subst h1
            have HX : Hid _ := MR.next HR.out HK.out HZ.out 6 (lv) (a) (bb) (v) (false) (true) (by rw [run_6, if_pos rfl]) (by decide) (by omega) (fun _ => by omega)
            clear HR HZ HN HT hst 
            as_aux_lemma =>
            go_wp2_with (first | (go_at_call 10; refine (hA _).mono ?_; rintro e' w' ⟨rfl, hw⟩; have hw2 := hw.symm; subst hw2; clear hw) | (go_at_call 11; refine (hF _).mono ?_; rintro e' w' ⟨rfl, hw⟩; have hw2 := hw.symm; subst hw2; clear hw) | fail)
            exact ⟨⟨6, k + 1, lv, a, bb, v, false, true, F, rfl, rfl, rfl, rfl, rfl, rfl, rfl, rfl, HX⟩, by simp [intOf]; omega⟩
          · have e1 : (z == 34) = false := by simpa using h1
            by_cases h2 : z = 123
            · subst h2
              have HX : Hid _ := MR.next HR.out HK.out HZ.out 6 (lv + 1) (a) (bb) (v) (e) (false) (by rw [run_6, if_neg (by decide), if_pos (Or.inl rfl)]) (by decide) (by omega) (fun _ => by omega)
              clear HR HZ HN HT hst h1 e1
              as_aux_lemma =>
              go_wp2_with (first | (go_at_call 10; refine (hA _).mono ?_; rintro e' w' ⟨rfl, hw⟩; have hw2 := hw.symm; subst hw2; clear hw) | (go_at_call 11; refine (hF _).mono ?_; rintro e' w' ⟨rfl, hw⟩; have hw2 := hw.symm; subst hw2; clear hw) | fail)
              exact ⟨⟨6, k + 1, lv + 1, a, bb, v, e, false, F, rfl, rfl, rfl, rfl, rfl, rfl, rfl, rfl, HX⟩, by simp [intOf]; omega⟩
            · have e2 : (z == 123) = false := by simpa using h2
              by_cases h3 : z = 91
              · subst h3
                have HX : Hid _ := MR.next HR.out HK.out HZ.out 6 (lv + 1) (a) (bb) (v) (e) (false) (by rw [run_6, if_neg (by decide), if_pos (Or.inr rfl)]) (by decide) (by omega) (fun _ => by omega)
                clear HR HZ HN HT hst h1 e1 h2 e2
                as_aux_lemma =>
                go_wp2_with (first | (go_at_call 10; refine (hA _).mono ?_; rintro e' w' ⟨rfl, hw⟩; have hw2 := hw.symm; subst hw2; clear hw) | (go_at_call 11; refine (hF _).mono ?_; rintro e' w' ⟨rfl, hw⟩; have hw2 := hw.symm; subst hw2; clear hw) | fail)
                exact ⟨⟨6, k + 1, lv + 1, a, bb, v, e, false, F, rfl, rfl, rfl, rfl, rfl, rfl, rfl, rfl, HX⟩, by simp [intOf]; omega⟩
              · have e3 : (z == 91) = false := by simpa using h3
                by_cases h4 : z = 125
                · subst h4
                  obtain ⟨lw, hlw⟩ : ∃ lw, lv = lw + 1 := ⟨lv - 1, by omega⟩
                  subst hlw
                  by_cases h9 : lw = 0
                  · subst h9
                    have hY : total xs = run (xs.drop (k + 1)) (k + 1) 8 e false (0) a bb v (F ++ [(a, bb, v, k + 1)]) := by rw [HR.out.eq, HZ.out, run_6, if_neg (by decide), if_neg (by decide), if_pos (Or.inl rfl), if_pos rfl]
                    have HY : Hid _ := hY
                    clear hY
                    have hFl : F.length ≤ 2 * k + 1 := HR.out.len
                    have H4 : Hid _ := HR.out.four
                    have HB : Hid _ := HR.out.bel
                    clear HZ HT hst h1 h2 h3 e1 e2 e3 hlv1
                    as_aux_lemma =>
                    obtain ⟨i0, hi, hz0, hz1, hz2⟩ := info_parts Tryd.info3
                    have hl1 : (c1 F).length ≤ 4194304 := by rw [c1_len]; omega
                    have hl2 : (c2 F).length ≤ 4194304 := by rw [c2_len]; omega
                    have hl3 : (c3 F).length ≤ 4194304 := by rw [c3_len]; omega
                    have hl4 : (c4 F).length ≤ 4194304 := by rw [c4_len]; omega
                    have hsz : w.heap.size ≤ wr.heap.size := HB.out.size
                    go_wp2_with (first | (go_at_call 11; refine (hF _).mono ?_; rintro e' w' ⟨rfl, hw⟩; have hw2 := hw.symm; subst hw2; clear hw) | (at_builtin; go_loud (refine wpList_append_one _ rfl (.tmp 152) (.tmp 154) 27 rfl w.heap.size 3 i0 (.int .i64 0) 8 Tryd.underlying27 hi hz0 hz1 hz2 rfl _ _ _ rfl (H4.out.alloc _).o1 ⟨wr.heap.size, 0, none⟩ 1 _ rfl (news_one _ _ _) (one_int _) (by unfold maxLen; omega) (by omega) (by simp; omega) ?_)))
                    intro q1 w1 ho hg hp
                    obtain ⟨hf, hb⟩ := Four.app1 H4.out HB.out ho hg hp
                    have hsz1 : w.heap.size ≤ w1.heap.size := hb.size
                    have H41 : Hid _ := hf
                    have HB1 : Hid _ := hb
                    clear hf hb ho hg hp H4 HB
                    go_wp2_with ((at_builtin; go_loud (refine wpList_append_one _ rfl (.tmp 156) (.tmp 158) 27 rfl w.heap.size 3 i0 (.int .i64 0) 8 Tryd.underlying27 hi hz0 hz1 hz2 rfl _ _ _ rfl (H41.out.alloc _).o2 ⟨w1.heap.size, 0, none⟩ 1 _ rfl (news_one _ _ _) (one_int _) (by unfold maxLen; omega) (by omega) (by simp; omega) ?_)))
                    intro q2 w2 ho hg hp
                    obtain ⟨hf, hb⟩ := Four.app2 H41.out HB1.out ho hg hp
                    have hsz2 : w.heap.size ≤ w2.heap.size := hb.size
                    have H42 : Hid _ := hf
                    have HB2 : Hid _ := hb
                    clear hf hb ho hg hp H41 HB1
                    go_wp2_with ((at_builtin; go_loud (refine wpList_append_one _ rfl (.tmp 160) (.tmp 162) 27 rfl w.heap.size 3 i0 (.int .i64 0) 8 Tryd.underlying27 hi hz0 hz1 hz2 rfl _ _ _ rfl (H42.out.alloc _).o3 ⟨w2.heap.size, 0, none⟩ 1 _ rfl (news_one _ _ _) (one_int _) (by unfold maxLen; omega) (by omega) (by simp; omega) ?_)))
                    intro q3 w3 ho hg hp
                    obtain ⟨hf, hb⟩ := Four.app3 H42.out HB2.out ho hg hp
                    have hsz3 : w.heap.size ≤ w3.heap.size := hb.size
                    have H43 : Hid _ := hf
                    have HB3 : Hid _ := hb
                    clear hf hb ho hg hp H42 HB2
                    go_wp2_with ((at_builtin; go_loud (refine wpList_append_one _ rfl (.tmp 164) (.tmp 167) 27 rfl w.heap.size 3 i0 (.int .i64 0) 8 Tryd.underlying27 hi hz0 hz1 hz2 rfl _ _ _ rfl (H43.out.alloc _).o4 ⟨w3.heap.size, 0, none⟩ 1 _ rfl (news_one _ _ _) (one_int _) (by unfold maxLen; omega) (by omega) (by simp; omega) ?_)))
                    intro q4 w4 ho hg hp
                    obtain ⟨hf, hb⟩ := Four.app4 H43.out HB3.out ho hg hp
                    have hsz4 : w.heap.size ≤ w4.heap.size := hb.size
                    have H44 : Hid _ := hf
                    have HB4 : Hid _ := hb
                    clear hf hb ho hg hp H43 HB3
                    go_wp2_with (first | (go_at_call 10; refine (hA _).mono ?_; rintro e' w' ⟨rfl, hw⟩; have hw2 := hw.symm; subst hw2; clear hw) | (go_at_call 11; refine (hF _).mono ?_; rintro e' w' ⟨rfl, hw⟩; have hw2 := hw.symm; subst hw2; clear hw) | fail)
                    have HX : Hid _ := MR.snoc (k' := k + 1) (r := k + 1) HR.out H44.out HB4.out HY.out (by decide) (by omega) (by rw [HN.out]; omega) (by omega)
                    exact ⟨⟨8, k + 1, 0, a, bb, v, e, false, F ++ [(a, bb, v, k + 1)], rfl, rfl, rfl, rfl, rfl, rfl, rfl, rfl, HX⟩, by simp [intOf]; omega⟩
                  · have e9 : ((lw : Int) == 0) = false := by simp; omega
                    have HX : Hid _ := MR.next HR.out HK.out HZ.out 6 (lw) (a) (bb) (v) (e) (false) (by rw [run_6, if_neg (by decide), if_neg (by decide), if_pos (Or.inl rfl), if_neg (by omega), Nat.add_sub_cancel]) (by decide) (by omega) (fun _ => by omega)
                    clear HR HZ HN HT hst h1 h2 h3 e1 e2 e3
                    as_aux_lemma =>
                    go_wp2_with (first | (go_at_call 10; refine (hA _).mono ?_; rintro e' w' ⟨rfl, hw⟩; have hw2 := hw.symm; subst hw2; clear hw) | (go_at_call 11; refine (hF _).mono ?_; rintro e' w' ⟨rfl, hw⟩; have hw2 := hw.symm; subst hw2; clear hw) | fail)
                    exact ⟨⟨6, k + 1, lw, a, bb, v, e, false, F, rfl, rfl, rfl, rfl, rfl, rfl, rfl, rfl, HX⟩, by simp [intOf]; omega⟩
                · have e4 : (z == 125) = false := by simpa using h4
                  by_cases h5 : z = 93
                  · subst h5
                    obtain ⟨lw, hlw⟩ : ∃ lw, lv = lw + 1 := ⟨lv - 1, by omega⟩
                    subst hlw
                    by_cases h9 : lw = 0
                    · subst h9
                      have hY : total xs = run (xs.drop (k + 1)) (k + 1) 8 e false (0) a bb v (F ++ [(a, bb, v, k + 1)]) := by rw [HR.out.eq, HZ.out, run_6, if_neg (by decide), if_neg (by decide), if_pos (Or.inr rfl), if_pos rfl]
                      have HY : Hid _ := hY
                      clear hY
                      have hFl : F.length ≤ 2 * k + 1 := HR.out.len
                      have H4 : Hid _ := HR.out.four
                      have HB : Hid _ := HR.out.bel
                      clear HZ HT hst h1 h2 h3 h4 e1 e2 e3 e4 hlv1
                      as_aux_lemma =>
                      obtain ⟨i0, hi, hz0, hz1, hz2⟩ := info_parts Tryd.info3
                      have hl1 : (c1 F).length ≤ 4194304 := by rw [c1_len]; omega
                      have hl2 : (c2 F).length ≤ 4194304 := by rw [c2_len]; omega
                      have hl3 : (c3 F).length ≤ 4194304 := by rw [c3_len]; omega
                      have hl4 : (c4 F).length ≤ 4194304 := by rw [c4_len]; omega
                      have hsz : w.heap.size ≤ wr.heap.size := HB.out.size
                      go_wp2_with (first | (go_at_call 11; refine (hF _).mono ?_; rintro e' w' ⟨rfl, hw⟩; have hw2 := hw.symm; subst hw2; clear hw) | (at_builtin; go_loud (refine wpList_append_one _ rfl (.tmp 152) (.tmp 154) 27 rfl w.heap.size 3 i0 (.int .i64 0) 8 Tryd.underlying27 hi hz0 hz1 hz2 rfl _ _ _ rfl (H4.out.alloc _).o1 ⟨wr.heap.size, 0, none⟩ 1 _ rfl (news_one _ _ _) (one_int _) (by unfold maxLen; omega) (by omega) (by simp; omega) ?_)))
                      intro q1 w1 ho hg hp
                      obtain ⟨hf, hb⟩ := Four.app1 H4.out HB.out ho hg hp
                      have hsz1 : w.heap.size ≤ w1.heap.size := hb.size
                      have H41 : Hid _ := hf
                      have HB1 : Hid _ := hb
                      clear hf hb ho hg hp H4 HB
                      go_wp2_with ((at_builtin; go_loud (refine wpList_append_one _ rfl (.tmp 156) (.tmp 158) 27 rfl w.heap.size 3 i0 (.int .i64 0) 8 Tryd.underlying27 hi hz0 hz1 hz2 rfl _ _ _ rfl (H41.out.alloc _).o2 ⟨w1.heap.size, 0, none⟩ 1 _ rfl (news_one _ _ _) (one_int _) (by unfold maxLen; omega) (by omega) (by simp; omega) ?_)))
                      intro q2 w2 ho hg hp
                      obtain ⟨hf, hb⟩ := Four.app2 H41.out HB1.out ho hg hp
                      have hsz2 : w.heap.size ≤ w2.heap.size := hb.size
                      have H42 : Hid _ := hf
                      have HB2 : Hid _ := hb
                      clear hf hb ho hg hp H41 HB1
                      go_wp2_with ((at_builtin; go_loud (refine wpList_append_one _ rfl (.tmp 160) (.tmp 162) 27 rfl w.heap.size 3 i0 (.int .i64 0) 8 Tryd.underlying27 hi hz0 hz1 hz2 rfl _ _ _ rfl (H42.out.alloc _).o3 ⟨w2.heap.size, 0, none⟩ 1 _ rfl (news_one _ _ _) (one_int _) (by unfold maxLen; omega) (by omega) (by simp; omega) ?_)))
                      intro q3 w3 ho hg hp
                      obtain ⟨hf, hb⟩ := Four.app3 H42.out HB2.out ho hg hp
                      have hsz3 : w.heap.size ≤ w3.heap.size := hb.size
                      have H43 : Hid _ := hf
                      have HB3 : Hid _ := hb
                      clear hf hb ho hg hp H42 HB2
                      go_wp2_with ((at_builtin; go_loud (refine wpList_append_one _ rfl (.tmp 164) (.tmp 167) 27 rfl w.heap.size 3 i0 (.int .i64 0) 8 Tryd.underlying27 hi hz0 hz1 hz2 rfl _ _ _ rfl (H43.out.alloc _).o4 ⟨w3.heap.size, 0, none⟩ 1 _ rfl (news_one _ _ _) (one_int _) (by unfold maxLen; omega) (by omega) (by simp; omega) ?_)))
                      intro q4 w4 ho hg hp
                      obtain ⟨hf, hb⟩ := Four.app4 H43.out HB3.out ho hg hp
                      have hsz4 : w.heap.size ≤ w4.heap.size := hb.size
                      have H44 : Hid _ := hf
                      have HB4 : Hid _ := hb
                      clear hf hb ho hg hp H43 HB3
                      go_wp2_with (first | (go_at_call 10; refine (hA _).mono ?_; rintro e' w' ⟨rfl, hw⟩; have hw2 := hw.symm; subst hw2; clear hw) | (go_at_call 11; refine (hF _).mono ?_; rintro e' w' ⟨rfl, hw⟩; have hw2 := hw.symm; subst hw2; clear hw) | fail)
                      have HX : Hid _ := MR.snoc (k' := k + 1) (r := k + 1) HR.out H44.out HB4.out HY.out (by decide) (by omega) (by rw [HN.out]; omega) (by omega)
                      exact ⟨⟨8, k + 1, 0, a, bb, v, e, false, F ++ [(a, bb, v, k + 1)], rfl, rfl, rfl, rfl, rfl, rfl, rfl, rfl, HX⟩, by simp [intOf]; omega⟩
                    · have e9 : ((lw : Int) == 0) = false := by simp; omega
                      have HX : Hid _ := MR.next HR.out HK.out HZ.out 6 (lw) (a) (bb) (v) (e) (false) (by rw [run_6, if_neg (by decide), if_neg (by decide), if_pos (Or.inr rfl), if_neg (by omega), Nat.add_sub_cancel]) (by decide) (by omega) (fun _ => by omega)
                      clear HR HZ HN HT hst h1 h2 h3 h4 e1 e2 e3 e4
                      as_aux_lemma =>
                      go_wp2_with (first | (go_at_call 10; refine (hA _).mono ?_; rintro e' w' ⟨rfl, hw⟩; have hw2 := hw.symm; subst hw2; clear hw) | (go_at_call 11; refine (hF _).mono ?_; rintro e' w' ⟨rfl, hw⟩; have hw2 := hw.symm; subst hw2; clear hw) | fail)
                      exact ⟨⟨6, k + 1, lw, a, bb, v, e, false, F, rfl, rfl, rfl, rfl, rfl, rfl, rfl, rfl, HX⟩, by simp [intOf]; omega⟩
                  · have e5 : (z == 93) = false := by simpa using h5
                    have HX : Hid _ := MR.next HR.out HK.out HZ.out 6 (lv) (a) (bb) (v) (e) (false) (by rw [run_6, if_neg h1, if_neg (by omega), if_neg (by omega)]) (by decide) (by omega) (fun _ => by omega)
                    clear HR HZ HN HT hst h1 h2 h3 h4 h5
                    as_aux_lemma =>
                    go_wp2_with (first | (go_at_call 10; refine (hA _).mono ?_; rintro e' w' ⟨rfl, hw⟩; have hw2 := hw.symm; subst hw2; clear hw) | (go_at_call 11; refine (hF _).mono ?_; rintro e' w' ⟨rfl, hw⟩; have hw2 := hw.symm; subst hw2; clear hw) | fail)
                    exact ⟨⟨6, k + 1, lv, a, bb, v, e, false, F, rfl, rfl, rfl, rfl, rfl, rfl, rfl, rfl, HX⟩, by simp [intOf]; omega⟩
        · skip
          cases e
          · skip
            by_cases h1 : z = 92
            · subst h1
              have HX : Hid _ := MR.next HR.out HK.out HZ.out 6 (lv) (a) (bb) (v) (true) (true) (by rw [run_6s, if_neg (by decide), if_pos rfl]) (by decide) (by omega) (fun _ => by omega)
              clear HR HZ HN HT hst 
              as_aux_lemma =>
              go_wp2_with (first | (go_at_call 10; refine (hA _).mono ?_; rintro e' w' ⟨rfl, hw⟩; have hw2 := hw.symm; subst hw2; clear hw) | (go_at_call 11; refine (hF _).mono ?_; rintro e' w' ⟨rfl, hw⟩; have hw2 := hw.symm; subst hw2; clear hw) | fail)
              exact ⟨⟨6, k + 1, lv, a, bb, v, true, true, F, rfl, rfl, rfl, rfl, rfl, rfl, rfl, rfl, HX⟩, by simp [intOf]; omega⟩
            · have e1 : (z == 92) = false := by simpa using h1
              by_cases h2 : z = 34
              · subst h2
                have HX : Hid _ := MR.next HR.out HK.out HZ.out 6 (lv) (a) (bb) (v) (false) (false) (by rw [run_6s, if_neg (by decide), if_neg (by decide), if_pos rfl]) (by decide) (by omega) (fun _ => by omega)
                clear HR HZ HN HT hst h1 e1
                as_aux_lemma =>
                go_wp2_with (first | (go_at_call 10; refine (hA _).mono ?_; rintro e' w' ⟨rfl, hw⟩; have hw2 := hw.symm; subst hw2; clear hw) | (go_at_call 11; refine (hF _).mono ?_; rintro e' w' ⟨rfl, hw⟩; have hw2 := hw.symm; subst hw2; clear hw) | fail)
                exact ⟨⟨6, k + 1, lv, a, bb, v, false, false, F, rfl, rfl, rfl, rfl, rfl, rfl, rfl, rfl, HX⟩, by simp [intOf]; omega⟩
              · have e2 : (z == 34) = false := by simpa using h2
                have HX : Hid _ := MR.next HR.out HK.out HZ.out 6 (lv) (a) (bb) (v) (false) (true) (by rw [run_6s, if_neg (by decide), if_neg h1, if_neg h2]) (by decide) (by omega) (fun _ => by omega)
                clear HR HZ HN HT hst h1 h2
                as_aux_lemma =>
                go_wp2_with (first | (go_at_call 10; refine (hA _).mono ?_; rintro e' w' ⟨rfl, hw⟩; have hw2 := hw.symm; subst hw2; clear hw) | (go_at_call 11; refine (hF _).mono ?_; rintro e' w' ⟨rfl, hw⟩; have hw2 := hw.symm; subst hw2; clear hw) | fail)
                exact ⟨⟨6, k + 1, lv, a, bb, v, false, true, F, rfl, rfl, rfl, rfl, rfl, rfl, rfl, rfl, HX⟩, by simp [intOf]; omega⟩
          · skip
            have HX : Hid _ := MR.next HR.out HK.out HZ.out 6 (lv) (a) (bb) (v) (false) (true) (by rw [run_6s, if_pos rfl]) (by decide) (by omega) (fun _ => by omega)
            clear HR HZ HN HT hst 
            as_aux_lemma =>
            go_wp2_with (first | (go_at_call 10; refine (hA _).mono ?_; rintro e' w' ⟨rfl, hw⟩; have hw2 := hw.symm; subst hw2; clear hw) | (go_at_call 11; refine (hF _).mono ?_; rintro e' w' ⟨rfl, hw⟩; have hw2 := hw.symm; subst hw2; clear hw) | fail)
            exact ⟨⟨6, k + 1, lv, a, bb, v, false, true, F, rfl, rfl, rfl, rfl, rfl, rfl, rfl, rfl, HX⟩, by simp [intOf]; omega⟩
      · clear hst; have hst : True := trivial
        have hF := fun w => zfollows_any z w
        by_cases hf : fol z = true
        · rw [hf] at hF
          have hY : total xs = run (xs.drop (k)) (k) 8 e i (lv) a bb v (F ++ [(a, bb, v, k)]) := by rw [HR.out.eq, HZ.out, run_7, if_pos hf, ← HZ.out]
          have HY : Hid _ := hY
          clear hY
          have hFl : F.length ≤ 2 * k + 1 := HR.out.len
          have H4 : Hid _ := HR.out.four
          have HB : Hid _ := HR.out.bel
          clear HZ HT hst hf
          as_aux_lemma =>
          obtain ⟨i0, hi, hz0, hz1, hz2⟩ := info_parts Tryd.info3
          have hl1 : (c1 F).length ≤ 4194304 := by rw [c1_len]; omega
          have hl2 : (c2 F).length ≤ 4194304 := by rw [c2_len]; omega
          have hl3 : (c3 F).length ≤ 4194304 := by rw [c3_len]; omega
          have hl4 : (c4 F).length ≤ 4194304 := by rw [c4_len]; omega
          have hsz : w.heap.size ≤ wr.heap.size := HB.out.size
          go_wp2_with (first | (go_at_call 11; refine (hF _).mono ?_; rintro e' w' ⟨rfl, hw⟩; have hw2 := hw.symm; subst hw2; clear hw) | (at_builtin; go_loud (refine wpList_append_one _ rfl (.tmp 173) (.tmp 175) 27 rfl w.heap.size 3 i0 (.int .i64 0) 8 Tryd.underlying27 hi hz0 hz1 hz2 rfl _ _ _ rfl (H4.out.alloc _).o1 ⟨wr.heap.size, 0, none⟩ 1 _ rfl (news_one _ _ _) (one_int _) (by unfold maxLen; omega) (by omega) (by simp; omega) ?_)))
          intro q1 w1 ho hg hp
          obtain ⟨hf, hb⟩ := Four.app1 H4.out HB.out ho hg hp
          have hsz1 : w.heap.size ≤ w1.heap.size := hb.size
          have H41 : Hid _ := hf
          have HB1 : Hid _ := hb
          clear hf hb ho hg hp H4 HB
          go_wp2_with ((at_builtin; go_loud (refine wpList_append_one _ rfl (.tmp 177) (.tmp 179) 27 rfl w.heap.size 3 i0 (.int .i64 0) 8 Tryd.underlying27 hi hz0 hz1 hz2 rfl _ _ _ rfl (H41.out.alloc _).o2 ⟨w1.heap.size, 0, none⟩ 1 _ rfl (news_one _ _ _) (one_int _) (by unfold maxLen; omega) (by omega) (by simp; omega) ?_)))
          intro q2 w2 ho hg hp
          obtain ⟨hf, hb⟩ := Four.app2 H41.out HB1.out ho hg hp
          have hsz2 : w.heap.size ≤ w2.heap.size := hb.size
          have H42 : Hid _ := hf
          have HB2 : Hid _ := hb
          clear hf hb ho hg hp H41 HB1
          go_wp2_with ((at_builtin; go_loud (refine wpList_append_one _ rfl (.tmp 181) (.tmp 183) 27 rfl w.heap.size 3 i0 (.int .i64 0) 8 Tryd.underlying27 hi hz0 hz1 hz2 rfl _ _ _ rfl (H42.out.alloc _).o3 ⟨w2.heap.size, 0, none⟩ 1 _ rfl (news_one _ _ _) (one_int _) (by unfold maxLen; omega) (by omega) (by simp; omega) ?_)))
          intro q3 w3 ho hg hp
          obtain ⟨hf, hb⟩ := Four.app3 H42.out HB2.out ho hg hp
          have hsz3 : w.heap.size ≤ w3.heap.size := hb.size
          have H43 : Hid _ := hf
          have HB3 : Hid _ := hb
          clear hf hb ho hg hp H42 HB2
          go_wp2_with ((at_builtin; go_loud (refine wpList_append_one _ rfl (.tmp 185) (.tmp 187) 27 rfl w.heap.size 3 i0 (.int .i64 0) 8 Tryd.underlying27 hi hz0 hz1 hz2 rfl _ _ _ rfl (H43.out.alloc _).o4 ⟨w3.heap.size, 0, none⟩ 1 _ rfl (news_one _ _ _) (one_int _) (by unfold maxLen; omega) (by omega) (by simp; omega) ?_)))
          intro q4 w4 ho hg hp
          obtain ⟨hf, hb⟩ := Four.app4 H43.out HB3.out ho hg hp
          have hsz4 : w.heap.size ≤ w4.heap.size := hb.size
          have H44 : Hid _ := hf
          have HB4 : Hid _ := hb
          clear hf hb ho hg hp H43 HB3
          go_wp2_with (first | (go_at_call 10; refine (hA _).mono ?_; rintro e' w' ⟨rfl, hw⟩; have hw2 := hw.symm; subst hw2; clear hw) | (go_at_call 11; refine (hF _).mono ?_; rintro e' w' ⟨rfl, hw⟩; have hw2 := hw.symm; subst hw2; clear hw) | fail)
          have HX : Hid _ := MR.snoc (k' := k) (r := k) HR.out H44.out HB4.out HY.out (by decide) (by omega) (by rw [HN.out]; omega) (by omega)
          exact ⟨⟨8, k, lv, a, bb, v, e, i, F ++ [(a, bb, v, k)], rfl, rfl, rfl, rfl, rfl, rfl, rfl, rfl, HX⟩, by simp [intOf]⟩
        · have hff : fol z = false := by simpa using hf
          rw [hff] at hF
          have HX : Hid _ := MR.next HR.out HK.out HZ.out 7 (lv) (a) (bb) (v) (e) (i) (by rw [run_7, if_neg hf]) (by decide) (by omega) (fun h => absurd h (by decide))
          clear HR HZ HN HT hst hf hff
          as_aux_lemma =>
          go_wp2_with (first | (go_at_call 10; refine (hA _).mono ?_; rintro e' w' ⟨rfl, hw⟩; have hw2 := hw.symm; subst hw2; clear hw) | (go_at_call 11; refine (hF _).mono ?_; rintro e' w' ⟨rfl, hw⟩; have hw2 := hw.symm; subst hw2; clear hw) | fail)
          exact ⟨⟨7, k + 1, lv, a, bb, v, e, i, F, rfl, rfl, rfl, rfl, rfl, rfl, rfl, rfl, HX⟩, by simp [intOf]; omega⟩
      · clear hst; have hst : True := trivial
        by_cases h1 : z = 44
        · subst h1
          have HX : Hid _ := MR.next HR.out HK.out HZ.out 9 (lv) (a) (bb) (v) (e) (i) (by rw [run_8, if_pos rfl]) (by decide) (by omega) (fun h => absurd h (by decide))
          clear HR HZ HN HT hst 
          as_aux_lemma =>
          go_wp2_with (first | (go_at_call 10; refine (hA _).mono ?_; rintro e' w' ⟨rfl, hw⟩; have hw2 := hw.symm; subst hw2; clear hw) | (go_at_call 11; refine (hF _).mono ?_; rintro e' w' ⟨rfl, hw⟩; have hw2 := hw.symm; subst hw2; clear hw) | fail)
          exact ⟨⟨9, k + 1, lv, a, bb, v, e, i, F, rfl, rfl, rfl, rfl, rfl, rfl, rfl, rfl, HX⟩, by simp [intOf]; omega⟩
        · have e1 : (z == 44) = false := by simpa using h1
          by_cases h2 : z = 125
          · subst h2
            have HX : Hid _ := MR.next HR.out HK.out HZ.out 10 (lv) (a) (bb) (v) (e) (i) (by rw [run_8, if_neg (by decide), if_pos rfl, run_done]) (by decide) (by omega) (fun h => absurd h (by decide))
            clear HR HZ HN HT hst e1 h1
            as_aux_lemma =>
            go_wp2_with (first | (go_at_call 10; refine (hA _).mono ?_; rintro e' w' ⟨rfl, hw⟩; have hw2 := hw.symm; subst hw2; clear hw) | (go_at_call 11; refine (hF _).mono ?_; rintro e' w' ⟨rfl, hw⟩; have hw2 := hw.symm; subst hw2; clear hw) | fail)
            exact ⟨⟨10, k + 1, lv, a, bb, v, e, i, F, rfl, rfl, rfl, rfl, rfl, rfl, rfl, rfl, HX⟩, by simp [intOf]; omega⟩
          · have e2 : (z == 125) = false := by simpa using h2
            have hA := fun w => isws_any z w
            by_cases hw : ws z = true
            · rw [hw] at hA
              have HX : Hid _ := MR.next HR.out HK.out HZ.out 8 (lv) (a) (bb) (v) (e) (i) (by rw [run_8, if_neg h1, if_neg h2, if_pos hw]) (by decide) (by omega) (fun h => absurd h (by decide))
              clear HR HZ HN HT hst h1 h2 hw
              as_aux_lemma =>
              go_wp2_with (first | (go_at_call 10; refine (hA _).mono ?_; rintro e' w' ⟨rfl, hw⟩; have hw2 := hw.symm; subst hw2; clear hw) | (go_at_call 11; refine (hF _).mono ?_; rintro e' w' ⟨rfl, hw⟩; have hw2 := hw.symm; subst hw2; clear hw) | fail)
              exact ⟨⟨8, k + 1, lv, a, bb, v, e, i, F, rfl, rfl, rfl, rfl, rfl, rfl, rfl, rfl, HX⟩, by simp [intOf]; omega⟩
            · have hwf : ws z = false := by simpa using hw
              rw [hwf] at hA
              have HY : Hid _ := MR.tot HR.out HZ.out (G := F) (fl := true) (by rw [run_8, if_neg h1, if_neg h2, if_neg hw])
              have H4 : Hid _ := HR.out.four
              have HB : Hid _ := HR.out.bel
              clear HR HZ HN HT hst h1 h2 hw hwf
              as_aux_lemma =>
              go_wp2_with (first | (go_at_call 10; refine (hA _).mono ?_; rintro e' w' ⟨rfl, hw⟩; have hw2 := hw.symm; subst hw2; clear hw) | (go_at_call 11; refine (hF _).mono ?_; rintro e' w' ⟨rfl, hw⟩; have hw2 := hw.symm; subst hw2; clear hw) | fail)
              exact bodyPost_ret (v := .tuple #[u2, u3, u4, u5, .bool true]) (by simp [results, Tryd.results6, go_sem]) rfl ⟨_, _, _, _, F, true, rfl, HY.out, H4.out, HB.out⟩
      · clear hst; have hst : True := trivial
        by_cases h1 : z = 34
        · subst h1
          have HX : Hid _ := MR.next HR.out HK.out HZ.out 2 (lv) (k) (bb) (v) (false) (i) (by rw [run_9, if_pos rfl]) (by decide) (by omega) (fun h => absurd h (by decide))
          clear HR HZ HN HT hst 
          as_aux_lemma =>
          go_wp2_with (first | (go_at_call 10; refine (hA _).mono ?_; rintro e' w' ⟨rfl, hw⟩; have hw2 := hw.symm; subst hw2; clear hw) | (go_at_call 11; refine (hF _).mono ?_; rintro e' w' ⟨rfl, hw⟩; have hw2 := hw.symm; subst hw2; clear hw) | fail)
          exact ⟨⟨2, k + 1, lv, k, bb, v, false, i, F, rfl, rfl, rfl, rfl, rfl, rfl, rfl, rfl, HX⟩, by simp [intOf]; omega⟩
        · have e1 : (z == 34) = false := by simpa using h1
          have hA := fun w => isws_any z w
          by_cases hw : ws z = true
          · rw [hw] at hA
            have e2 : (z == 125) = false := by have := (ws_ne hw).2.2.1; simpa using this
            have HX : Hid _ := MR.next HR.out HK.out HZ.out 9 (lv) (a) (bb) (v) (e) (i) (by rw [run_9, if_neg h1, if_pos hw]) (by decide) (by omega) (fun h => absurd h (by decide))
            clear HR HZ HN HT hst h1 hw
            as_aux_lemma =>
            go_wp2_with (first | (go_at_call 10; refine (hA _).mono ?_; rintro e' w' ⟨rfl, hw⟩; have hw2 := hw.symm; subst hw2; clear hw) | (go_at_call 11; refine (hF _).mono ?_; rintro e' w' ⟨rfl, hw⟩; have hw2 := hw.symm; subst hw2; clear hw) | fail)
            exact ⟨⟨9, k + 1, lv, a, bb, v, e, i, F, rfl, rfl, rfl, rfl, rfl, rfl, rfl, rfl, HX⟩, by simp [intOf]; omega⟩
          · have hwf : ws z = false := by simpa using hw
            rw [hwf] at hA
            by_cases h2 : z = 125
            · subst h2
              have HY : Hid _ := MR.tot HR.out HZ.out (G := F) (fl := true) (by rw [run_9, if_neg h1, if_neg hw])
              have H4 : Hid _ := HR.out.four
              have HB : Hid _ := HR.out.bel
              clear HR HZ HN HT hst h1 hw hwf e1
              as_aux_lemma =>
              go_wp2_with (first | (go_at_call 10; refine (hA _).mono ?_; rintro e' w' ⟨rfl, hw⟩; have hw2 := hw.symm; subst hw2; clear hw) | (go_at_call 11; refine (hF _).mono ?_; rintro e' w' ⟨rfl, hw⟩; have hw2 := hw.symm; subst hw2; clear hw) | fail)
              exact bodyPost_ret (v := .tuple #[u2, u3, u4, u5, .bool true]) (by simp [results, Tryd.results6, go_sem]) rfl ⟨_, _, _, _, F, true, rfl, HY.out, H4.out, HB.out⟩
            · have e2 : (z == 125) = false := by simpa using h2
              have HY : Hid _ := MR.tot HR.out HZ.out (G := F) (fl := true) (by rw [run_9, if_neg h1, if_neg hw])
              have H4 : Hid _ := HR.out.four
              have HB : Hid _ := HR.out.bel
              clear HR HZ HN HT hst h1 h2 hw hwf
              as_aux_lemma =>
              go_wp2_with (first | (go_at_call 10; refine (hA _).mono ?_; rintro e' w' ⟨rfl, hw⟩; have hw2 := hw.symm; subst hw2; clear hw) | (go_at_call 11; refine (hF _).mono ?_; rintro e' w' ⟨rfl, hw⟩; have hw2 := hw.symm; subst hw2; clear hw) | fail)
              exact bodyPost_ret (v := .tuple #[u2, u3, u4, u5, .bool true]) (by simp [results, Tryd.results6, go_sem]) rfl ⟨_, _, _, _, F, true, rfl, HY.out, H4.out, HB.out⟩
      · clear HZ hcell; clear hst; have hst : True := trivial
        have hY : total xs = (F, false) := by rw [HR.out.eq, run_done]
        have HY : Hid _ := hY
        clear hY
        have H4 : Hid _ := HR.out.four
        have HB : Hid _ := HR.out.bel
        clear HR HN HT hst
        as_aux_lemma =>
        go_wp2_with fail
        exact bodyPost_ret (v := .tuple #[u2, u3, u4, u5, .bool false]) (by simp [results, Tryd.results6, go_sem]) rfl ⟨_, _, _, _, F, false, rfl, HY.out, H4.out, HB.out⟩
    · skip
      have hkn2 : k = n := by omega
      subst hkn2
      have hE : xs.drop k = [] := by have := HN.out; simp [this]
      have HE : Hid _ := hE
      clear hE
      by_cases h10 : st = 10
      · subst h10
        have hY : total xs = (F, false) := by rw [HR.out.eq, run_done]
        have HY : Hid _ := hY
        clear hY
        have H4 : Hid _ := HR.out.four
        have HB : Hid _ := HR.out.bel
        clear HR HN HT hst
        as_aux_lemma =>
        go_wp2_with fail
        exact bodyPost_ret (v := .tuple #[u2, u3, u4, u5, .bool false]) (by simp [results, Tryd.results6, go_sem]) rfl ⟨_, _, _, _, F, false, rfl, HY.out, H4.out, HB.out⟩
      · by_cases h7 : st = 7
        · subst h7
          have hY : total xs = (F ++ [(a, bb, v, k)], true) := by rw [HR.out.eq, HE.out]; rfl
          have HY : Hid _ := hY
          clear hY
          have hFl : F.length ≤ 2 * k + 1 := HR.out.len
          have H4 : Hid _ := HR.out.four
          have HB : Hid _ := HR.out.bel
          clear HR HE HN HT hst h10
          as_aux_lemma =>
          obtain ⟨i0, hi, hz0, hz1, hz2⟩ := info_parts Tryd.info3
          have hl1 : (c1 F).length ≤ 4194304 := by rw [c1_len]; omega
          have hl2 : (c2 F).length ≤ 4194304 := by rw [c2_len]; omega
          have hl3 : (c3 F).length ≤ 4194304 := by rw [c3_len]; omega
          have hl4 : (c4 F).length ≤ 4194304 := by rw [c4_len]; omega
          have hsz : w.heap.size ≤ wr.heap.size := HB.out.size
          go_wp2_with (first | (go_at_call 11; refine (hF _).mono ?_; rintro e' w' ⟨rfl, hw⟩; have hw2 := hw.symm; subst hw2; clear hw) | (at_builtin; go_loud (refine wpList_append_one _ rfl (.tmp 212) (.tmp 214) 27 rfl w.heap.size 3 i0 (.int .i64 0) 8 Tryd.underlying27 hi hz0 hz1 hz2 rfl _ _ _ rfl (H4.out.alloc _).o1 ⟨wr.heap.size, 0, none⟩ 1 _ rfl (news_one _ _ _) (one_int _) (by unfold maxLen; omega) (by omega) (by simp; omega) ?_)))
          intro q1 w1 ho hg hp
          obtain ⟨hf, hb⟩ := Four.app1 H4.out HB.out ho hg hp
          have hsz1 : w.heap.size ≤ w1.heap.size := hb.size
          have H41 : Hid _ := hf
          have HB1 : Hid _ := hb
          clear hf hb ho hg hp H4 HB
          go_wp2_with ((at_builtin; go_loud (refine wpList_append_one _ rfl (.tmp 216) (.tmp 218) 27 rfl w.heap.size 3 i0 (.int .i64 0) 8 Tryd.underlying27 hi hz0 hz1 hz2 rfl _ _ _ rfl (H41.out.alloc _).o2 ⟨w1.heap.size, 0, none⟩ 1 _ rfl (news_one _ _ _) (one_int _) (by unfold maxLen; omega) (by omega) (by simp; omega) ?_)))
          intro q2 w2 ho hg hp
          obtain ⟨hf, hb⟩ := Four.app2 H41.out HB1.out ho hg hp
          have hsz2 : w.heap.size ≤ w2.heap.size := hb.size
          have H42 : Hid _ := hf
          have HB2 : Hid _ := hb
          clear hf hb ho hg hp H41 HB1
          go_wp2_with ((at_builtin; go_loud (refine wpList_append_one _ rfl (.tmp 220) (.tmp 222) 27 rfl w.heap.size 3 i0 (.int .i64 0) 8 Tryd.underlying27 hi hz0 hz1 hz2 rfl _ _ _ rfl (H42.out.alloc _).o3 ⟨w2.heap.size, 0, none⟩ 1 _ rfl (news_one _ _ _) (one_int _) (by unfold maxLen; omega) (by omega) (by simp; omega) ?_)))
          intro q3 w3 ho hg hp
          obtain ⟨hf, hb⟩ := Four.app3 H42.out HB2.out ho hg hp
          have hsz3 : w.heap.size ≤ w3.heap.size := hb.size
          have H43 : Hid _ := hf
          have HB3 : Hid _ := hb
          clear hf hb ho hg hp H42 HB2
          go_wp2_with ((at_builtin; go_loud (refine wpList_append_one _ rfl (.tmp 224) (.tmp 227) 27 rfl w.heap.size 3 i0 (.int .i64 0) 8 Tryd.underlying27 hi hz0 hz1 hz2 rfl _ _ _ rfl (H43.out.alloc _).o4 ⟨w3.heap.size, 0, none⟩ 1 _ rfl (news_one _ _ _) (one_int _) (by unfold maxLen; omega) (by omega) (by simp; omega) ?_)))
          intro q4 w4 ho hg hp
          obtain ⟨hf, hb⟩ := Four.app4 H43.out HB3.out ho hg hp
          have hsz4 : w.heap.size ≤ w4.heap.size := hb.size
          have H44 : Hid _ := hf
          have HB4 : Hid _ := hb
          clear hf hb ho hg hp H43 HB3
          go_wp2_with fail
          exact bodyPost_ret (v := .tuple #[q1, q2, q3, q4, .bool true]) (by simp [results, Tryd.results6, go_sem]) rfl ⟨_, _, _, _, F ++ [(a, bb, v, k)], true, rfl, HY.out, by simpa [c1, c2, c3, c4] using H44.out, HB4.out⟩
        · have e10 : ((st : Int) == 10) = false := by simp; omega
          have e7 : ((st : Int) == 7) = false := by simp; omega
          have hY : total xs = (F, true) := by rw [HR.out.eq, HE.out]; show (if st = 10 then _ else _) = _; rw [if_neg h10, if_neg h7]
          have HY : Hid _ := hY
          clear hY
          have H4 : Hid _ := HR.out.four
          have HB : Hid _ := HR.out.bel
          clear HR HE HN HT h10 h7
          as_aux_lemma =>
          go_wp2_with fail
          exact bodyPost_ret (v := .tuple #[u2, u3, u4, u5, .bool true]) (by simp [results, Tryd.results6, go_sem]) rfl ⟨_, _, _, _, F, true, rfl, HY.out, H4.out, HB.out⟩
end Go.Proofs.Qxb6608652aDoor
