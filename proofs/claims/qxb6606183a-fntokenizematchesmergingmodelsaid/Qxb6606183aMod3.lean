import Derived.Test.Qxb6606183aMod2
namespace Go.Proofs.Qxb6606183a
set_option linter.unusedVariables false
set_option linter.unusedSimpArgs false
open Go.ChangeShapes Go.WideShapes Go.ChangeAt Go.RowKit

/-- What a round that appends has to hand on. -/
theorem relM_app' {s : ByteArray} {w : World} {k : Nat} {c : UInt8} {T : List (Int × List UInt8)} (hk : k < s.size) (hc : s[k] = c) (hs : isSp c = false) (hlen : T.length ≤ k)
    (htok : tok (s.data.toList.take k ++ [c]) = T ++ [(k1 c, [c])]) {kc : Int} (hkc : k1 c = kc) :
    Hid (∀ v' w1, w1.ownsRow w.heap.size 35 2 v' (T.length + 1) (cellsT T ++ [.int .i64 kc, .string (s.extract k (k + 1))]) → Below w.heap.size w w1 → ∃ T, RelM s w (k + 1) k ((k : Int) + 1) T v' w1) := by
  subst hc hkc
  intro v' w1 ho hb
  exact ⟨_, relM_app hk hs hlen (by rw [take_snoc hk]; exact htok) ho hb⟩

/-- What a round that grows the last token has to hand on. -/
theorem relM_ext' {s : ByteArray} {w : World} {k p : Nat} {c : UInt8} {T0 : List (Int × List UInt8)} {kd kd' : Int} (hk : k < s.size) (hc : s[k] = c) (hs : isSp c = false) (hp : p < k) (hlen : T0.length + 1 ≤ k)
    (htok : tok (s.data.toList.take k ++ [c]) = T0 ++ [(kd', (s.data.toList.drop p).take (k - p) ++ [c])]) :
    Hid (∀ v w1, w1.ownsRow w.heap.size 35 2 v (T0.length + 1) (cellsT (T0 ++ [(kd', (s.data.toList.drop p).take (k + 1 - p))])) → Below w.heap.size w w1 → ∃ T, RelM s w (k + 1) p ((k : Int) + 1) T v w1) := by
  subst hc
  intro v w1 ho hb
  exact ⟨_, relM_ext hk hs hp hlen (by rw [take_snoc hk]; exact htok) ho hb⟩

theorem extTok7 {x : List UInt8} {c : UInt8} (hd : isDl c = true) (hc : c = 61) (hx : x.length = 1) : extTok (7, x) c = some (6, x ++ [c]) := by simp [extTok, hd, hc, hx]
theorem extTok5 {x : List UInt8} {c : UInt8} (hd : isDl c = true) (hc : c = 61) (hx : x.length = 1) : extTok (5, x) c = some (5, x ++ [c]) := by simp [extTok, hd, hc, hx]
theorem extTok1 {x : List UInt8} {c : UInt8} (hd : isDl c = false) : extTok (1, x) c = some (1, x ++ [c]) := by simp [extTok, hd]

theorem ext1_none {t : Int × List UInt8} {c : UInt8} (h : extTok t c = none) : ext1 t c = [t, (k1 c, [c])] := by simp [ext1, h]
theorem ext1_some {t u : Int × List UInt8} {c : UInt8} (h : extTok t c = some u) : ext1 t c = [u] := by simp [ext1, h]

set_option maxHeartbeats 8000000 in
set_option maxRecDepth 100000 in
theorem model_any (s : ByteArray) (w : World) (hs : s.size ≤ 2097152) :
    Calls Try.prog 17 #[.string s] w fun e w' => ∃ v, e = .returned v ∧ w'.ownsRow w.heap.size 35 2 v ((tok s.data.toList).length + 1) (cellsT (tok s.data.toList ++ [(0, [])])) ∧ Below w.heap.size w w' := by
  obtain ⟨i0, hi, hz0, hz1, hz2⟩ := info_parts Try.info35
  go_enter Try.func17, Try.ntmps17
  go_wp2_with fail
  go_loopw [3, 4, 5, 6] (fun v ps qs i wr => ∃ (k p : Nat) (q : Int), k ≤ s.size ∧ i = .int .i64 k ∧ ps = .int .i64 p ∧ qs = .int .i64 q ∧ Hid (∃ T, RelM s w k p q T v wr)) (fun _ _ _ i _ => s.size - (intOf i).toNat)
  case atStart => exact ⟨0, 0, -1, Nat.zero_le _, rfl, rfl, rfl, [], relM_start s w⟩
  case round =>
    obtain ⟨k, p, q, hk, rfl, rfl, rfl, HREL⟩ := hrel
    obtain ⟨T, hR⟩ := HREL.out
    clear HREL
    by_cases hlt : k < s.size
    · obtain ⟨c, hc⟩ : ∃ c, s[k] = c := ⟨_, rfl⟩
      have hSP := fun w => issp_any c w
      by_cases hsp : isSp c = true
      · have HR' : Hid (∃ T, RelM s w (k + 1) p q T _ wr) := ⟨T, relM_sp hR hlt (by rw [hc]; exact hsp)⟩
        rw [hsp] at hSP
        clear hR
        go_wp2_with (go_at_call 21; refine (hSP _).mono ?_; rintro e w' ⟨rfl, hw⟩; have hw2 := hw.symm; subst hw2; clear hw)
        go_roundw
        case rel => exact ⟨k + 1, p, q, by omega, by go_num, rfl, rfl, HR'⟩
        case measure => simp [intOf]; omega
      · have hspf : isSp c = false := by simpa using hsp
        rw [hspf] at hSP
        clear hsp
        have hpk := hR.pk
        have hqlo := hR.qlo
        have hlenT := hR.len
        have hown := hR.own
        have hbel := hR.bel
        have hBs := hbel.size
        by_cases htc : touch (s.data.toList.take k) = true
        · obtain ⟨hqe, hpk', T0, kd, hT⟩ := hR.near htc
          subst hqe
          have htok0 : tok (s.data.toList.take k ++ [c]) = T0 ++ ext1 (kd, (s.data.toList.drop p).take (k - p)) c := by
            rw [touch_ext _ _ _ (Nat.le_refl _) htc hspf, ← hR.toks, hT, ext_snoc]
          have hxl : ((s.data.toList.drop p).take (k - p)).length = k - p := by
            have hsl : s.data.toList.length = s.size := Array.length_toList
            rw [List.length_take, List.length_drop, hsl]; omega
          have hn1 : T.length = T0.length + 1 := by rw [hT]; simp
          have hne : 0 < T.length := by omega
          obtain ⟨g, cap, hv, hg, hcap, htk⟩ := tks_of_own rfl hne hown
          subst hv
          have hkc : wr.cell? ⟨g, (T.length - 1) * 2, none⟩ = some (.int .i64 kd) := by
            have := htk.kind (T.length - 1) (by omega)
            rw [this]; simp [hT]
          have htc2 : wr.cell? ⟨g, (T.length - 1) * 2 + 1, none⟩ = some (.string ⟨((s.data.toList.drop p).take (k - p)).toArray⟩) := by
            have := htk.text (T.length - 1) (by omega)
            rw [this]; simp [hT]
          have hfr0 := hown.frozenAt ((T.length - 1) * 2)
          have hfr1 := hown.frozenAt ((T.length - 1) * 2 + 1)
          have hn2 : T.length - 1 = T0.length := by omega
          have hpi : (p : Int) < (k : Int) := by omega
          clear htk htc hqlo hpk
          by_cases hdl : isDl c = true
          · have hW := fun w => isw_no c w hdl
            by_cases h61 : c = 61
            · have e61 : ((c.toNat : Int) == 61) = true := by rw [h61]; decide
              by_cases hl1 : k - p = 1
              · have el1 : ((k : Int) - (p : Int) == 1) = true := by simp; omega
                by_cases g7 : kd = 7
                · have ek7 : (kd == 7) = true := by simpa using g7
                  have htok1 : tok (s.data.toList.take k ++ [c]) = T0 ++ [(6, (s.data.toList.drop p).take (k - p) ++ [c])] := by rw [htok0, g7, ext1_some (extTok7 hdl h61 (by rw [hxl]; exact hl1))]
                  have HE := relM_ext' (w := w) (kd := kd) hlt hc hspf hpk' (by omega) (show tok (s.data.toList.take k ++ [c]) = T0 ++ [(6, (s.data.toList.drop p).take (k - p) ++ [c])] from htok1)
                  have hs0 := (hown.stored ((T.length - 1) * 2) (.int .i64 6)).1
                  have hs1 := (hs0.stored ((T.length - 1) * 2 + 1) (.string (s.extract p (k + 1)))).1
                  have ec : ((cellsT T).set ((T.length - 1) * 2) (.int .i64 6)).set ((T.length - 1) * 2 + 1) (.string (s.extract p (k + 1))) = cellsT (T0 ++ [(6, (s.data.toList.drop p).take (k + 1 - p))]) := by rw [hn2, hT, cells_kind, ext_str, cells_text]
                  rw [ec] at hs1
                  have HST : Hid (∃ T', RelM s w (k + 1) p ((k : Int) + 1) T' (.slice (some ⟨g, 0, none⟩) T.length cap) ((wr.setCell ⟨g, (T.length - 1) * 2, none⟩ (.int .i64 6)).setCell ⟨g, (T.length - 1) * 2 + 1, none⟩ (.string (s.extract p (k + 1))))) := HE.out _ _ (by rw [← hn1]; exact hs1) ((hbel.setCell (p := ⟨g, (T.length - 1) * 2, none⟩) hg _).setCell (p := ⟨g, (T.length - 1) * 2 + 1, none⟩) hg _)
                  clear hs1 ec HE htok1 htok0 hn1 hn2 hT hR hown hs0
                  generalize T.length = nT at *
                  clear h61 hl1 g7 hxl
                  go_wp2_with (first | (go_at_call 21; refine (hSP _).mono ?_; rintro e w' ⟨rfl, hw⟩; have hw2 := hw.symm; subst hw2; clear hw) | (go_at_call 22; refine (hW _).mono ?_; rintro e w' ⟨rfl, hw⟩; have hw2 := hw.symm; subst hw2; clear hw))
                  go_roundw
                  case rel => exact ⟨k + 1, p, (k : Int) + 1, by omega, by go_num, rfl, rfl, HST⟩
                  case measure => simp [intOf]; omega
                · have ek7 : (kd == 7) = false := by simpa using g7
                  by_cases g1 : kd = 5
                  · have ek5 : (kd == 5) = true := by simpa using g1
                    have htok1 : tok (s.data.toList.take k ++ [c]) = T0 ++ [(5, (s.data.toList.drop p).take (k - p) ++ [c])] := by rw [htok0, g1, ext1_some (extTok5 hdl h61 (by rw [hxl]; exact hl1))]
                    have HE := relM_ext' (w := w) (kd := kd) hlt hc hspf hpk' (by omega) (show tok (s.data.toList.take k ++ [c]) = T0 ++ [(5, (s.data.toList.drop p).take (k - p) ++ [c])] from htok1)
                    have hs1 := (hown.stored ((T.length - 1) * 2 + 1) (.string (s.extract p (k + 1)))).1
                    have ec : (cellsT T).set ((T.length - 1) * 2 + 1) (.string (s.extract p (k + 1))) = cellsT (T0 ++ [(5, (s.data.toList.drop p).take (k + 1 - p))]) := by rw [hn2, hT, ext_str, cells_text, g1]
                    rw [ec] at hs1
                    have HST : Hid (∃ T', RelM s w (k + 1) p ((k : Int) + 1) T' (.slice (some ⟨g, 0, none⟩) T.length cap) (wr.setCell ⟨g, (T.length - 1) * 2 + 1, none⟩ (.string (s.extract p (k + 1))))) := HE.out _ _ (by rw [← hn1]; exact hs1) (hbel.setCell (p := ⟨g, (T.length - 1) * 2 + 1, none⟩) hg _)
                    clear hs1 ec HE htok1 htok0 hn1 hn2 hT hR hown
                    generalize T.length = nT at *
                    clear h61 hl1 g7 g1 hxl
                    go_wp2_with (first | (go_at_call 21; refine (hSP _).mono ?_; rintro e w' ⟨rfl, hw⟩; have hw2 := hw.symm; subst hw2; clear hw) | (go_at_call 22; refine (hW _).mono ?_; rintro e w' ⟨rfl, hw⟩; have hw2 := hw.symm; subst hw2; clear hw))
                    go_roundw
                    case rel => exact ⟨k + 1, p, (k : Int) + 1, by omega, by go_num, rfl, rfl, HST⟩
                    case measure => simp [intOf]; omega
                  · have ek5 : (kd == 5) = false := by simpa using g1
                    have hxn : extTok (kd, (s.data.toList.drop p).take (k - p)) c = none := by simp [extTok, hdl, g7, g1]
                    have htok2 : tok (s.data.toList.take k ++ [c]) = T ++ [(k1 c, [c])] := by rw [htok0, ext1_none hxn, hT]; simp
                    have hlenT' : T.length ≤ k := hlenT
                    have HAPP := relM_app' (w := w) hlt hc hspf hlenT' htok2 rfl
                    have hK := fun w => kind_any c w hspf hdl
                    clear htok2 hxn htok0 hn1 hn2 hT hR
                    generalize k1 c = kc at *
                    generalize cellsT T = CT at *
                    generalize T.length = nT at *
                    clear h61 hl1 g7 g1 hxl htc2
                    go_wp2_with (first | (go_at_call 21; refine (hSP _).mono ?_; rintro e w' ⟨rfl, hw⟩; have hw2 := hw.symm; subst hw2; clear hw) | (go_at_call 22; refine (hW _).mono ?_; rintro e w' ⟨rfl, hw⟩; have hw2 := hw.symm; subst hw2; clear hw) | (go_at_call 23; refine (hK _).mono ?_; rintro e w' ⟨rfl, hw⟩; have hw2 := hw.symm; subst hw2; clear hw) | (at_builtin; refine wpList_append_own _ rfl (.tmp 131) (.tmp 139) 31 rfl w.heap.size 35 i0 (.agg #[.int .i64 0, .string ByteArray.empty]) 2 24 Try.underlying31 hi hz0 hz1 hz2 rfl (by decide) _ _ _ rfl (hown.alloc _) ⟨wr.heap.size, 0, none⟩ 1 1 [.int .i64 kc, .string (s.extract k (k + 1))] rfl rfl (news1' _ _ _) (one2 _ _) (by unfold maxLen; omega) (by omega) (by simp; omega) ?_))
                    intro v' w1 hown' hgrow _
                    have hb1 : Below w.heap.size w w1 := (hbel.alloc hBs _).grown hgrow (by simp; omega) (fun k e => (hown.lt k e).1)
                    have HR' : Hid (∃ T, RelM s w (k + 1) k ((k : Int) + 1) T v' w1) := HAPP.out v' w1 (by simpa using hown') hb1
                    clear hgrow hown hbel hown' HAPP hb1
                    go_wp2
                    go_roundw
                    case rel => exact ⟨k + 1, k, (k : Int) + 1, by omega, by go_num, rfl, rfl, HR'⟩
                    case measure => simp [intOf]; omega
              · have el1 : ((k : Int) - (p : Int) == 1) = false := by simp; omega
                have hxn : extTok (kd, (s.data.toList.drop p).take (k - p)) c = none := by simp [extTok, hdl, hxl, hl1]
                have htok2 : tok (s.data.toList.take k ++ [c]) = T ++ [(k1 c, [c])] := by rw [htok0, ext1_none hxn, hT]; simp
                have hlenT' : T.length ≤ k := hlenT
                have HAPP := relM_app' (w := w) hlt hc hspf hlenT' htok2 rfl
                have hK := fun w => kind_any c w hspf hdl
                clear htok2 hxn htok0 hn1 hn2 hT hR
                generalize k1 c = kc at *
                generalize cellsT T = CT at *
                generalize T.length = nT at *
                clear h61 hl1 hxl htc2
                go_wp2_with (first | (go_at_call 21; refine (hSP _).mono ?_; rintro e w' ⟨rfl, hw⟩; have hw2 := hw.symm; subst hw2; clear hw) | (go_at_call 22; refine (hW _).mono ?_; rintro e w' ⟨rfl, hw⟩; have hw2 := hw.symm; subst hw2; clear hw) | (go_at_call 23; refine (hK _).mono ?_; rintro e w' ⟨rfl, hw⟩; have hw2 := hw.symm; subst hw2; clear hw) | (at_builtin; refine wpList_append_own _ rfl (.tmp 131) (.tmp 139) 31 rfl w.heap.size 35 i0 (.agg #[.int .i64 0, .string ByteArray.empty]) 2 24 Try.underlying31 hi hz0 hz1 hz2 rfl (by decide) _ _ _ rfl (hown.alloc _) ⟨wr.heap.size, 0, none⟩ 1 1 [.int .i64 kc, .string (s.extract k (k + 1))] rfl rfl (news1' _ _ _) (one2 _ _) (by unfold maxLen; omega) (by omega) (by simp; omega) ?_))
                intro v' w1 hown' hgrow _
                have hb1 : Below w.heap.size w w1 := (hbel.alloc hBs _).grown hgrow (by simp; omega) (fun k e => (hown.lt k e).1)
                have HR' : Hid (∃ T, RelM s w (k + 1) k ((k : Int) + 1) T v' w1) := HAPP.out v' w1 (by simpa using hown') hb1
                clear hgrow hown hbel hown' HAPP hb1
                go_wp2
                go_roundw
                case rel => exact ⟨k + 1, k, (k : Int) + 1, by omega, by go_num, rfl, rfl, HR'⟩
                case measure => simp [intOf]; omega
            · have e61 : ((c.toNat : Int) == 61) = false := by have := tnat_ne 61 h61; simpa using this
              have hxn : extTok (kd, (s.data.toList.drop p).take (k - p)) c = none := by simp [extTok, hdl, h61]
              have htok2 : tok (s.data.toList.take k ++ [c]) = T ++ [(k1 c, [c])] := by rw [htok0, ext1_none hxn, hT]; simp
              have hlenT' : T.length ≤ k := hlenT
              have HAPP := relM_app' (w := w) hlt hc hspf hlenT' htok2 rfl
              have hK := fun w => kind_any c w hspf hdl
              clear htok2 hxn htok0 hn1 hn2 hT hR
              generalize k1 c = kc at *
              generalize cellsT T = CT at *
              generalize T.length = nT at *
              clear h61 hxl htc2
              go_wp2_with (first | (go_at_call 21; refine (hSP _).mono ?_; rintro e w' ⟨rfl, hw⟩; have hw2 := hw.symm; subst hw2; clear hw) | (go_at_call 22; refine (hW _).mono ?_; rintro e w' ⟨rfl, hw⟩; have hw2 := hw.symm; subst hw2; clear hw) | (go_at_call 23; refine (hK _).mono ?_; rintro e w' ⟨rfl, hw⟩; have hw2 := hw.symm; subst hw2; clear hw) | (at_builtin; refine wpList_append_own _ rfl (.tmp 131) (.tmp 139) 31 rfl w.heap.size 35 i0 (.agg #[.int .i64 0, .string ByteArray.empty]) 2 24 Try.underlying31 hi hz0 hz1 hz2 rfl (by decide) _ _ _ rfl (hown.alloc _) ⟨wr.heap.size, 0, none⟩ 1 1 [.int .i64 kc, .string (s.extract k (k + 1))] rfl rfl (news1' _ _ _) (one2 _ _) (by unfold maxLen; omega) (by omega) (by simp; omega) ?_))
              intro v' w1 hown' hgrow _
              have hb1 : Below w.heap.size w w1 := (hbel.alloc hBs _).grown hgrow (by simp; omega) (fun k e => (hown.lt k e).1)
              have HR' : Hid (∃ T, RelM s w (k + 1) k ((k : Int) + 1) T v' w1) := HAPP.out v' w1 (by simpa using hown') hb1
              clear hgrow hown hbel hown' HAPP hb1
              go_wp2
              go_roundw
              case rel => exact ⟨k + 1, k, (k : Int) + 1, by omega, by go_num, rfl, rfl, HR'⟩
              case measure => simp [intOf]; omega
          · have hdlf : isDl c = false := by simpa using hdl
            have hW := fun w => isw_yes c w hdlf
            by_cases g1 : kd = 1
            · have ek1 : (kd == 1) = true := by simpa using g1
              have htok1 : tok (s.data.toList.take k ++ [c]) = T0 ++ [(1, (s.data.toList.drop p).take (k - p) ++ [c])] := by rw [htok0, g1, ext1_some (extTok1 hdlf)]
              have HE := relM_ext' (w := w) (kd := kd) hlt hc hspf hpk' (by omega) (show tok (s.data.toList.take k ++ [c]) = T0 ++ [(1, (s.data.toList.drop p).take (k - p) ++ [c])] from htok1)
              have hs1 := (hown.stored ((T.length - 1) * 2 + 1) (.string (s.extract p (k + 1)))).1
              have ec : (cellsT T).set ((T.length - 1) * 2 + 1) (.string (s.extract p (k + 1))) = cellsT (T0 ++ [(1, (s.data.toList.drop p).take (k + 1 - p))]) := by rw [hn2, hT, ext_str, cells_text, g1]
              rw [ec] at hs1
              have HST : Hid (∃ T', RelM s w (k + 1) p ((k : Int) + 1) T' (.slice (some ⟨g, 0, none⟩) T.length cap) (wr.setCell ⟨g, (T.length - 1) * 2 + 1, none⟩ (.string (s.extract p (k + 1))))) := HE.out _ _ (by rw [← hn1]; exact hs1) (hbel.setCell (p := ⟨g, (T.length - 1) * 2 + 1, none⟩) hg _)
              clear hs1 ec HE htok1 htok0 hn1 hn2 hT hR hown
              generalize T.length = nT at *
              clear g1 hxl
              go_wp2_with (first | (go_at_call 21; refine (hSP _).mono ?_; rintro e w' ⟨rfl, hw⟩; have hw2 := hw.symm; subst hw2; clear hw) | (go_at_call 22; refine (hW _).mono ?_; rintro e w' ⟨rfl, hw⟩; have hw2 := hw.symm; subst hw2; clear hw))
              go_roundw
              case rel => exact ⟨k + 1, p, (k : Int) + 1, by omega, by go_num, rfl, rfl, HST⟩
              case measure => simp [intOf]; omega
            · have ek1 : (kd == 1) = false := by simpa using g1
              have h61 := (nd_ne hdlf).1
              have e61 : ((c.toNat : Int) == 61) = false := by have := tnat_ne 61 h61; simpa using this
              have hxn : extTok (kd, (s.data.toList.drop p).take (k - p)) c = none := by simp [extTok, h61, g1]
              have htok2 : tok (s.data.toList.take k ++ [c]) = T ++ [(k1 c, [c])] := by rw [htok0, ext1_none hxn, hT]; simp
              have hlenT' : T.length ≤ k := hlenT
              have HAPP := relM_app' (w := w) hlt hc hspf hlenT' htok2 (k1_word hdlf)
              clear htok2 hxn htok0 hn1 hn2 hT hR
              generalize cellsT T = CT at *
              generalize T.length = nT at *
              clear h61 g1 hxl htc2
              go_wp2_with (first | (go_at_call 21; refine (hSP _).mono ?_; rintro e w' ⟨rfl, hw⟩; have hw2 := hw.symm; subst hw2; clear hw) | (go_at_call 22; refine (hW _).mono ?_; rintro e w' ⟨rfl, hw⟩; have hw2 := hw.symm; subst hw2; clear hw) | (at_builtin; refine wpList_append_own _ rfl (.tmp 131) (.tmp 139) 31 rfl w.heap.size 35 i0 (.agg #[.int .i64 0, .string ByteArray.empty]) 2 24 Try.underlying31 hi hz0 hz1 hz2 rfl (by decide) _ _ _ rfl (hown.alloc _) ⟨wr.heap.size, 0, none⟩ 1 1 [.int .i64 1, .string (s.extract k (k + 1))] rfl rfl (news1' _ _ _) (one2 _ _) (by unfold maxLen; omega) (by omega) (by simp; omega) ?_))
              intro v' w1 hown' hgrow _
              have hb1 : Below w.heap.size w w1 := (hbel.alloc hBs _).grown hgrow (by simp; omega) (fun k e => (hown.lt k e).1)
              have HR' : Hid (∃ T, RelM s w (k + 1) k ((k : Int) + 1) T v' w1) := HAPP.out v' w1 (by simpa using hown') hb1
              clear hgrow hown hbel hown' HAPP hb1
              go_wp2
              go_roundw
              case rel => exact ⟨k + 1, k, (k : Int) + 1, by omega, by go_num, rfl, rfl, HR'⟩
              case measure => simp [intOf]; omega
        · have htcf : touch (s.data.toList.take k) = false := by simpa using htc
          have hfar := hR.far htcf
          have hqk : (q == (k : Int)) = false := by simp; omega
          have htok0 := snoc_apart htcf hspf
          rw [← hR.toks] at htok0
          clear htc htcf
          rcases List.eq_nil_or_concat T with hT | ⟨T0, t0, hT⟩
          · have hv := hR.nil hT
            subst hT hv
            clear hR
            have hlenT : ([] : List (Int × List UInt8)).length ≤ k := Nat.zero_le _
            by_cases hdl : isDl c = true
            · have hW := fun w => isw_no c w hdl
              have hK := fun w => kind_any c w hspf hdl
              have HAPP := relM_app' (w := w) hlt hc hspf hlenT (htok0) rfl
              generalize k1 c = kc at *
              go_wp2_with (first | (go_at_call 21; refine (hSP _).mono ?_; rintro e w' ⟨rfl, hw⟩; have hw2 := hw.symm; subst hw2; clear hw) | (go_at_call 22; refine (hW _).mono ?_; rintro e w' ⟨rfl, hw⟩; have hw2 := hw.symm; subst hw2; clear hw) | (go_at_call 23; refine (hK _).mono ?_; rintro e w' ⟨rfl, hw⟩; have hw2 := hw.symm; subst hw2; clear hw) | (at_builtin; refine wpList_append_own _ rfl (.tmp 131) (.tmp 139) 31 rfl w.heap.size 35 i0 (.agg #[.int .i64 0, .string ByteArray.empty]) 2 24 Try.underlying31 hi hz0 hz1 hz2 rfl (by decide) _ _ _ rfl (hown.alloc _) ⟨wr.heap.size, 0, none⟩ 1 1 [.int .i64 kc, .string (s.extract k (k + 1))] rfl rfl (news1' _ _ _) (one2 _ _) (by unfold maxLen; omega) (by omega) (by simp; omega) ?_))
              intro v' w1 hown' hgrow _
              have hb1 : Below w.heap.size w w1 := (hbel.alloc hBs _).grown hgrow (by simp; omega) (fun k e => (hown.lt k e).1)
              have HR' : Hid (∃ T, RelM s w (k + 1) k ((k : Int) + 1) T v' w1) := HAPP.out v' w1 (by simpa using hown') hb1
              clear hgrow hown hbel hown' HAPP hb1
              go_wp2
              go_roundw
              case rel => exact ⟨k + 1, k, (k : Int) + 1, by omega, by go_num, rfl, rfl, HR'⟩
              case measure => simp [intOf]; omega
            · have hdlf : isDl c = false := by simpa using hdl
              have hW := fun w => isw_yes c w hdlf
              have HAPP := relM_app' (w := w) hlt hc hspf hlenT (htok0) (k1_word hdlf)
              go_wp2_with (first | (go_at_call 21; refine (hSP _).mono ?_; rintro e w' ⟨rfl, hw⟩; have hw2 := hw.symm; subst hw2; clear hw) | (go_at_call 22; refine (hW _).mono ?_; rintro e w' ⟨rfl, hw⟩; have hw2 := hw.symm; subst hw2; clear hw) | (at_builtin; refine wpList_append_own _ rfl (.tmp 131) (.tmp 139) 31 rfl w.heap.size 35 i0 (.agg #[.int .i64 0, .string ByteArray.empty]) 2 24 Try.underlying31 hi hz0 hz1 hz2 rfl (by decide) _ _ _ rfl (hown.alloc _) ⟨wr.heap.size, 0, none⟩ 1 1 [.int .i64 1, .string (s.extract k (k + 1))] rfl rfl (news1' _ _ _) (one2 _ _) (by unfold maxLen; omega) (by omega) (by simp; omega) ?_))
              intro v' w1 hown' hgrow _
              have hb1 : Below w.heap.size w w1 := (hbel.alloc hBs _).grown hgrow (by simp; omega) (fun k e => (hown.lt k e).1)
              have HR' : Hid (∃ T, RelM s w (k + 1) k ((k : Int) + 1) T v' w1) := HAPP.out v' w1 (by simpa using hown') hb1
              clear hgrow hown hbel hown' HAPP hb1
              go_wp2
              go_roundw
              case rel => exact ⟨k + 1, k, (k : Int) + 1, by omega, by go_num, rfl, rfl, HR'⟩
              case measure => simp [intOf]; omega
          · have hn1 : T.length = T0.length + 1 := by rw [hT]; simp
            have hne : 0 < T.length := by omega
            obtain ⟨g, cap, hv, hg, hcap, htk⟩ := tks_of_own rfl hne hown
            subst hv
            clear hR htk hn1 hT
            by_cases hdl : isDl c = true
            · have hW := fun w => isw_no c w hdl
              have hK := fun w => kind_any c w hspf hdl
              have HAPP := relM_app' (w := w) hlt hc hspf hlenT (htok0) rfl
              generalize k1 c = kc at *
              generalize cellsT T = CT at *
              generalize T.length = nT at *
              go_wp2_with (first | (go_at_call 21; refine (hSP _).mono ?_; rintro e w' ⟨rfl, hw⟩; have hw2 := hw.symm; subst hw2; clear hw) | (go_at_call 22; refine (hW _).mono ?_; rintro e w' ⟨rfl, hw⟩; have hw2 := hw.symm; subst hw2; clear hw) | (go_at_call 23; refine (hK _).mono ?_; rintro e w' ⟨rfl, hw⟩; have hw2 := hw.symm; subst hw2; clear hw) | (at_builtin; refine wpList_append_own _ rfl (.tmp 131) (.tmp 139) 31 rfl w.heap.size 35 i0 (.agg #[.int .i64 0, .string ByteArray.empty]) 2 24 Try.underlying31 hi hz0 hz1 hz2 rfl (by decide) _ _ _ rfl (hown.alloc _) ⟨wr.heap.size, 0, none⟩ 1 1 [.int .i64 kc, .string (s.extract k (k + 1))] rfl rfl (news1' _ _ _) (one2 _ _) (by unfold maxLen; omega) (by omega) (by simp; omega) ?_))
              intro v' w1 hown' hgrow _
              have hb1 : Below w.heap.size w w1 := (hbel.alloc hBs _).grown hgrow (by simp; omega) (fun k e => (hown.lt k e).1)
              have HR' : Hid (∃ T, RelM s w (k + 1) k ((k : Int) + 1) T v' w1) := HAPP.out v' w1 (by simpa using hown') hb1
              clear hgrow hown hbel hown' HAPP hb1
              go_wp2
              go_roundw
              case rel => exact ⟨k + 1, k, (k : Int) + 1, by omega, by go_num, rfl, rfl, HR'⟩
              case measure => simp [intOf]; omega
            · have hdlf : isDl c = false := by simpa using hdl
              have hW := fun w => isw_yes c w hdlf
              have HAPP := relM_app' (w := w) hlt hc hspf hlenT (htok0) (k1_word hdlf)
              generalize cellsT T = CT at *
              generalize T.length = nT at *
              go_wp2_with (first | (go_at_call 21; refine (hSP _).mono ?_; rintro e w' ⟨rfl, hw⟩; have hw2 := hw.symm; subst hw2; clear hw) | (go_at_call 22; refine (hW _).mono ?_; rintro e w' ⟨rfl, hw⟩; have hw2 := hw.symm; subst hw2; clear hw) | (at_builtin; refine wpList_append_own _ rfl (.tmp 131) (.tmp 139) 31 rfl w.heap.size 35 i0 (.agg #[.int .i64 0, .string ByteArray.empty]) 2 24 Try.underlying31 hi hz0 hz1 hz2 rfl (by decide) _ _ _ rfl (hown.alloc _) ⟨wr.heap.size, 0, none⟩ 1 1 [.int .i64 1, .string (s.extract k (k + 1))] rfl rfl (news1' _ _ _) (one2 _ _) (by unfold maxLen; omega) (by omega) (by simp; omega) ?_))
              intro v' w1 hown' hgrow _
              have hb1 : Below w.heap.size w w1 := (hbel.alloc hBs _).grown hgrow (by simp; omega) (fun k e => (hown.lt k e).1)
              have HR' : Hid (∃ T, RelM s w (k + 1) k ((k : Int) + 1) T v' w1) := HAPP.out v' w1 (by simpa using hown') hb1
              clear hgrow hown hbel hown' HAPP hb1
              go_wp2
              go_roundw
              case rel => exact ⟨k + 1, k, (k : Int) + 1, by omega, by go_num, rfl, rfl, HR'⟩
              case measure => simp [intOf]; omega
    · obtain rfl : k = s.size := by omega
      have hTe : T = tok s.data.toList := by
        have h := hR.toks
        rw [List.take_of_length_le (by rw [Array.length_toList]; exact Nat.le_refl _)] at h
        exact h
      have HTe : Hid _ := hTe
      have hlenT := hR.len
      have hown := hR.own
      have hbel := hR.bel
      have hBs := hbel.size
      clear hR hlt hTe
      go_wp2_with (at_builtin; refine wpList_append_own _ rfl (.tmp 144) (.tmp 146) 31 rfl w.heap.size 35 i0 (.agg #[.int .i64 0, .string ByteArray.empty]) 2 24 Try.underlying31 hi hz0 hz1 hz2 rfl (by decide) _ _ _ rfl (hown.alloc _) ⟨wr.heap.size, 0, none⟩ 1 1 [.int .i64 0, .string ⟨#[]⟩] rfl rfl (news1' _ _ _) (one2 _ _) (by unfold maxLen; omega) (by omega) (by simp; omega) ?_)
      intro v' w1 hown' hgrow _
      have hb1 : Below w.heap.size w w1 := (hbel.alloc hBs _).grown hgrow (by simp; omega) (fun k e => (hown.lt k e).1)
      have hsn := cellsT_snoc T 0 []
      rw [← hsn, HTe.out] at hown'
      clear hsn hgrow hown hbel HTe
      go_wp2
      go_ret
      exact ⟨v', rfl, hown', hb1⟩

end Go.Proofs.Qxb6606183a
