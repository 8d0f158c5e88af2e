import Derived.Test.Qxb6608652aDoorEach
namespace Go.Proofs.Qxb6608652aDoor
set_option linter.unusedVariables false
set_option linter.unusedSimpArgs false
open Go.ChangeShapes Go.WideShapes Go.ChangeAt Go.RowKit

theorem Txt.low {w w' : World} {b B : Nat} {xs : List Int} (h : Txt w b xs) (hb : Below B w w') (hB : b < B) : Txt w' b xs :=
  ⟨Nat.lt_of_lt_of_le h.lt hb.size, h.rng, h.len, fun i hi => by rw [hb.cell (p := ⟨b, i, none⟩) hB]; exact h.cell i hi⟩

theorem gath_snoc {B b : Nat} {w : World} {F : List (Nat × Nat × Nat × Nat)} {k ne vs r : Nat} (h : ∃ v0 v1 v2, St B w v0 v1 v2 (nameV b F ++ [.slice (some ⟨b, k, none⟩) (ne - k) (ne - k)]) (valV b F ++ [.slice (some ⟨b, vs, none⟩) (r - vs) (r - vs)]) (textV b F ++ [.slice (some ⟨b, k, none⟩) (r - k) (r - k)])) :
    Gath B b w (F ++ [(k, ne, vs, r)]) := by
  obtain ⟨v0, v1, v2, h⟩ := h
  refine ⟨v0, v1, v2, ?_⟩
  simpa [nameV, valV, textV] using h

set_option maxHeartbeats 4000000 in
set_option maxRecDepth 100000 in
/-- eachField with ZZeachField's visitor. -/
theorem each_any (B b n : Nat) (xs : List Int) (w : World) (ea : Addr) (hE : w.cell? ⟨0, 0, none⟩ = some (EM ea)) (hB0 : 0 < B) (hbB : b < B) (hn : xs.length = n) (ht : Txt w b xs) (hG : Gath B b w []) :
    Calls Tryd.prog 8 #[.slice (some ⟨b, 0, none⟩) n n, .func (.func 9) #[] #[.pointer (some ⟨B, 0, none⟩), .pointer (some ⟨B + 1, 0, none⟩), .pointer (some ⟨B + 2, 0, none⟩)]] w (EPost xs B b w) := by
  have hle := ht.len
  rw [hn] at hle
  have HN : Hid (xs.length = n) := hn
  have HT : Hid _ := ht
  have hK0 := skip_any b n 0 xs w hn (Nat.zero_le _) ht
  have HG : Hid _ := hG
  have hBw : B + 3 ≤ w.heap.size := hG.lt
  clear hn ht hG
  go_enter Tryd.func8, Tryd.ntmps8
  go_wp2_with fail
  refine hK0.mono ?_
  rintro e w' ⟨⟨i, rfl, hs0⟩, hw⟩
  have hw2 := hw.symm
  subst hw2
  clear hw hK0
  have hi1 : i ≤ n := by rw [← HN.out]; exact hs0.hi
  have HS0 : Hid _ := hs0
  clear hs0
  by_cases hop : i < n ∧ xs.getD i 0 = 123
  · obtain ⟨hin, h123⟩ := hop
    have hci := HT.out.cell i (by rw [HN.out]; exact hin)
    rw [h123] at hci
    have hin' : ((i : Int) == (n : Int)) = false := by simp; omega
    have hK1 := skip_any b n (i + 1) xs w HN.out hin HT.out
    have H123 : Hid _ := h123
    clear h123
    go_wp2_with fail
    refine hK1.mono ?_
    rintro e w' ⟨⟨j, rfl, hs1⟩, hw⟩
    have hw2 := hw.symm
    subst hw2
    clear hw hK1 hci
    have hj1 : j ≤ n := by rw [← HN.out]; exact hs1.hi
    have HO : Hid _ := e_open HS0.out (by rw [HN.out]; exact hin) H123.out hs1
    have HS1 : Hid _ := hs1
    clear hs1
    by_cases h125 : j < n ∧ xs.getD j 0 = 125
    · obtain ⟨hjn, h125⟩ := h125
      have hcj := HT.out.cell j (by rw [HN.out]; exact hjn)
      rw [h125] at hcj
      have HE : Hid _ := e_empty HO.out (by rw [HN.out]; exact hjn) h125
      clear h125
      go_wp2_with fail
      go_ret
      exact ⟨⟨[], false, HE.out, fun t h => by simp at h, Nat.zero_le _, HG.out, .inl ⟨rfl, rfl⟩⟩, Below.refl _ _⟩
    · have HH : Hid (EHead xs j []) := e_first HO.out HS1.out (fun h hh => h125 ⟨by rw [← HN.out]; exact h, hh⟩)
      have hcj : j < n → w.cell? ⟨b, j, none⟩ = some (.int .u8 (xs.getD j 0)) := fun h => HT.out.cell j (by rw [HN.out]; exact h)
      have e125 : j < n → (xs.getD j 0 == 125) = false := fun h => by
        have : xs.getD j 0 ≠ 125 := fun hh => h125 ⟨h, hh⟩
        simpa using this
      clear h125 HO HS1 H123 HS0
      by_cases hjn : j < n
      · have hcj' := hcj hjn
        have e125' := e125 hjn
        clear hcj e125
        generalize hzz : xs.getD j 0 = zz at hcj' e125'
        clear hzz
        go_wp2_with fail
        go_loopw [5] (fun i wr => ∃ (k : Nat) (F : List (Nat × Nat × Nat × Nat)), i = .int .i64 k ∧ k ≤ n ∧ Hid (EHead xs k F) ∧ Hid (Gath B b wr F) ∧ Below B w wr) (fun i _ => n - (intOf i).toNat)
        case atStart => exact ⟨j, [], rfl, hj1, HH, HG, Below.refl _ _⟩
        case round =>
          obtain ⟨k, F, rfl, hkn, HD, HGr, hbel⟩ := hrel
          have hszr : B + 3 ≤ wr.heap.size := HGr.out.lt
          have hEr : wr.cell? ⟨0, 0, none⟩ = some (EM ea) := by rw [hbel.cell (p := ⟨0, 0, none⟩) hB0]; exact hE
          have htr := HT.out.low hbel hbB
          have hFl : F.length ≤ n := by have := HD.out.few; omega
          have hFA := field_any b n k xs wr ea hEr (by omega) HN.out hkn htr (fun h => HD.out.dark (by rw [HN.out]; exact h))
          have HTR : Hid _ := htr
          clear htr
          go_wp2_with fail
          refine hFA.mono ?_
          rintro e w1 ⟨h | ⟨rfl, hfe⟩, hb1⟩
          · obtain ⟨ne, vs, r, rfl, hfo⟩ := h
            have hr1 : k < ne ∧ ne ≤ vs ∧ vs < r ∧ r ≤ n := ⟨hfo.1, hfo.2.1, hfo.2.2.1, by rw [← HN.out]; exact hfo.2.2.2.1⟩
            have HFO : Hid _ := hfo
            have hG1 := HGr.out.mono hb1
            have hb1w : Below B w w1 := hbel.trans (hb1.mono (by omega))
            have hsz1 : B + 3 ≤ w1.heap.size := hG1.lt
            obtain ⟨v0, v1, v2, hSt⟩ := hG1
            have hV := visit_any B (w1.alloc (.cells #[.slice (some ⟨b, k, none⟩) (ne - k) (ne - k), .slice (some ⟨b, vs, none⟩) (r - vs) (r - vs), .slice (some ⟨b, k, none⟩) (r - k) (r - k)] 35)) (some ⟨b, k, none⟩) (some ⟨b, vs, none⟩) (some ⟨b, k, none⟩) (ne - k) (r - vs) (r - k) (ne - k) (r - vs) (r - k) v0 v1 v2 _ _ _ (hSt.alloc _) (by simp only [nameV, List.length_map]; omega) (by simp only [valV, List.length_map]; omega) (by simp only [textV, List.length_map]; omega)
            clear hfo hb1 hSt hFA
            go_wp2_with fail
            refine hV.mono ?_
            rintro e w2 ⟨rfl, hG2, hb2⟩
            have hG2' := gath_snoc hG2
            have hb2w : Below B w w2 := (hb1w.alloc (by omega) _).trans hb2
            have hsz2 : B + 3 ≤ w2.heap.size := hG2'.lt
            have ht2 := HT.out.low hb2w hbB
            have hE2 : w2.cell? ⟨0, 0, none⟩ = some (EM ea) := by rw [hb2w.cell (p := ⟨0, 0, none⟩) hB0]; exact hE
            have hK2 := skip_any b n r xs w2 HN.out hr1.2.2.2 ht2
            have HG2 : Hid _ := hG2'
            have HT2 : Hid _ := ht2
            have HB2 : Hid _ := hb2w
            have HGD : Hid _ := e_good HD.out HFO.out
            clear hG2 hG2' hb2 hV ht2 hb1w hb2w
            go_wp2_with fail
            refine hK2.mono ?_
            rintro e w' ⟨⟨i', rfl, hs2⟩, hw⟩
            have hw2 := hw.symm
            subst hw2
            clear hw hK2
            have hi2 : r ≤ i' ∧ i' ≤ n := ⟨hs2.lo, by rw [← HN.out]; exact hs2.hi⟩
            have H8 : Hid _ := e_ok HD.out HFO.out hs2
            have HS2 : Hid _ := hs2
            have hFl2 : (F ++ [(k, ne, vs, r)]).length ≤ n := by have := HD.out.few; simp; omega
            have HFL2 : Hid _ := hFl2
            clear hs2 hFl2
            by_cases hin2 : i' < n
            · have hci2 := HT2.out.cell i' (by rw [HN.out]; exact hin2)
              have hin2' : ((i' : Int) == (n : Int)) = false := by simp; omega
              by_cases h44 : xs.getD i' 0 = 44
              · rw [h44] at hci2
                have hK3 := skip_any b n (i' + 1) xs w2 HN.out hin2 HT2.out
                have H44 : Hid _ := h44
                clear h44
                go_wp2_with fail
                refine hK3.mono ?_
                rintro e w' ⟨⟨i3, rfl, hs3⟩, hw⟩
                have hw2 := hw.symm
                subst hw2
                clear hw hK3
                have hi3 : i' + 1 ≤ i3 ∧ i3 ≤ n := ⟨hs3.lo, by rw [← HN.out]; exact hs3.hi⟩
                have HH3 : Hid _ := e_next H8.out (by rw [HN.out]; exact hin2) H44.out hs3 HGD.out (by have := HD.out.few; simp; omega)
                clear hs3
                go_wp2_with fail
                go_roundw
                case rel => exact ⟨i3, _, rfl, hi3.2, HH3, HG2, HB2.out⟩
                case measure => simp [intOf]; omega
              · have e44 : (xs.getD i' 0 == 44) = false := by simpa using h44
                by_cases h125 : xs.getD i' 0 = 125
                · have e125 : (xs.getD i' 0 == 125) = true := by simpa using h125
                  have HTT : Hid _ := e_done H8.out (by rw [HN.out]; exact hin2) h125
                  clear h125 h44
                  generalize xs.getD i' 0 = zy at *
                  go_wp2_with fail
                  go_ret
                  exact ⟨⟨_, false, HTT.out, HGD.out, by rw [HN.out]; exact HFL2.out, HG2.out, .inl ⟨rfl, rfl⟩⟩, HB2.out⟩
                · have e125 : (xs.getD i' 0 == 125) = false := by simpa using h125
                  have HTT : Hid _ := e_bad H8.out (by rw [HN.out]; exact hin2) (HS2.out.stop (by rw [HN.out]; exact hin2)) h44 h125
                  clear h125 h44
                  generalize xs.getD i' 0 = zy at *
                  go_wp2_with fail
                  go_ret
                  exact ⟨⟨_, true, HTT.out, HGD.out, by rw [HN.out]; exact HFL2.out, HG2.out, .inr ⟨rfl, _, _, rfl⟩⟩, HB2.out⟩
            · have hin2' : ((i' : Int) == (n : Int)) = true := by simp; omega
              have HTT : Hid _ := e_out H8.out (by rw [HN.out]; omega)
              go_wp2_with fail
              go_ret
              exact ⟨⟨_, true, HTT.out, HGD.out, by rw [HN.out]; exact HFL2.out, HG2.out, .inr ⟨rfl, _, _, rfl⟩⟩, HB2.out⟩
          · have HTT : Hid _ := e_err HD.out hfe
            have hG1 : Hid _ := HGr.out.mono hb1
            have hb1w : Below B w w1 := hbel.trans (hb1.mono (by omega))
            have HGA : Hid (Gath B b (w1.alloc (.cells #[nilS, nilS, nilS] 35)) F) := Gath.mono hG1.out ((Below.refl _ _).alloc (Nat.le_refl _) _)
            have hsz1 : B ≤ w1.heap.size := by have := hb1w.size; omega
            clear hb1 hFA hfe hG1
            go_wp2_with fail
            go_ret
            exact ⟨⟨F, true, HTT.out, HD.out.good, by rw [HN.out]; exact hFl, HGA.out, .inr ⟨rfl, _, _, rfl⟩⟩, hb1w.alloc hsz1 _⟩
      · clear hcj e125
        go_wp2_with fail
        go_loopw [5] (fun i wr => ∃ (k : Nat) (F : List (Nat × Nat × Nat × Nat)), i = .int .i64 k ∧ k ≤ n ∧ Hid (EHead xs k F) ∧ Hid (Gath B b wr F) ∧ Below B w wr) (fun i _ => n - (intOf i).toNat)
        case atStart => exact ⟨j, [], rfl, hj1, HH, HG, Below.refl _ _⟩
        case round =>
          obtain ⟨k, F, rfl, hkn, HD, HGr, hbel⟩ := hrel
          have hszr : B + 3 ≤ wr.heap.size := HGr.out.lt
          have hEr : wr.cell? ⟨0, 0, none⟩ = some (EM ea) := by rw [hbel.cell (p := ⟨0, 0, none⟩) hB0]; exact hE
          have htr := HT.out.low hbel hbB
          have hFl : F.length ≤ n := by have := HD.out.few; omega
          have hFA := field_any b n k xs wr ea hEr (by omega) HN.out hkn htr (fun h => HD.out.dark (by rw [HN.out]; exact h))
          have HTR : Hid _ := htr
          clear htr
          go_wp2_with fail
          refine hFA.mono ?_
          rintro e w1 ⟨h | ⟨rfl, hfe⟩, hb1⟩
          · obtain ⟨ne, vs, r, rfl, hfo⟩ := h
            have hr1 : k < ne ∧ ne ≤ vs ∧ vs < r ∧ r ≤ n := ⟨hfo.1, hfo.2.1, hfo.2.2.1, by rw [← HN.out]; exact hfo.2.2.2.1⟩
            have HFO : Hid _ := hfo
            have hG1 := HGr.out.mono hb1
            have hb1w : Below B w w1 := hbel.trans (hb1.mono (by omega))
            have hsz1 : B + 3 ≤ w1.heap.size := hG1.lt
            obtain ⟨v0, v1, v2, hSt⟩ := hG1
            have hV := visit_any B (w1.alloc (.cells #[.slice (some ⟨b, k, none⟩) (ne - k) (ne - k), .slice (some ⟨b, vs, none⟩) (r - vs) (r - vs), .slice (some ⟨b, k, none⟩) (r - k) (r - k)] 35)) (some ⟨b, k, none⟩) (some ⟨b, vs, none⟩) (some ⟨b, k, none⟩) (ne - k) (r - vs) (r - k) (ne - k) (r - vs) (r - k) v0 v1 v2 _ _ _ (hSt.alloc _) (by simp only [nameV, List.length_map]; omega) (by simp only [valV, List.length_map]; omega) (by simp only [textV, List.length_map]; omega)
            clear hfo hb1 hSt hFA
            go_wp2_with fail
            refine hV.mono ?_
            rintro e w2 ⟨rfl, hG2, hb2⟩
            have hG2' := gath_snoc hG2
            have hb2w : Below B w w2 := (hb1w.alloc (by omega) _).trans hb2
            have hsz2 : B + 3 ≤ w2.heap.size := hG2'.lt
            have ht2 := HT.out.low hb2w hbB
            have hE2 : w2.cell? ⟨0, 0, none⟩ = some (EM ea) := by rw [hb2w.cell (p := ⟨0, 0, none⟩) hB0]; exact hE
            have hK2 := skip_any b n r xs w2 HN.out hr1.2.2.2 ht2
            have HG2 : Hid _ := hG2'
            have HT2 : Hid _ := ht2
            have HB2 : Hid _ := hb2w
            have HGD : Hid _ := e_good HD.out HFO.out
            clear hG2 hG2' hb2 hV ht2 hb1w hb2w
            go_wp2_with fail
            refine hK2.mono ?_
            rintro e w' ⟨⟨i', rfl, hs2⟩, hw⟩
            have hw2 := hw.symm
            subst hw2
            clear hw hK2
            have hi2 : r ≤ i' ∧ i' ≤ n := ⟨hs2.lo, by rw [← HN.out]; exact hs2.hi⟩
            have H8 : Hid _ := e_ok HD.out HFO.out hs2
            have HS2 : Hid _ := hs2
            have hFl2 : (F ++ [(k, ne, vs, r)]).length ≤ n := by have := HD.out.few; simp; omega
            have HFL2 : Hid _ := hFl2
            clear hs2 hFl2
            by_cases hin2 : i' < n
            · have hci2 := HT2.out.cell i' (by rw [HN.out]; exact hin2)
              have hin2' : ((i' : Int) == (n : Int)) = false := by simp; omega
              by_cases h44 : xs.getD i' 0 = 44
              · rw [h44] at hci2
                have hK3 := skip_any b n (i' + 1) xs w2 HN.out hin2 HT2.out
                have H44 : Hid _ := h44
                clear h44
                go_wp2_with fail
                refine hK3.mono ?_
                rintro e w' ⟨⟨i3, rfl, hs3⟩, hw⟩
                have hw2 := hw.symm
                subst hw2
                clear hw hK3
                have hi3 : i' + 1 ≤ i3 ∧ i3 ≤ n := ⟨hs3.lo, by rw [← HN.out]; exact hs3.hi⟩
                have HH3 : Hid _ := e_next H8.out (by rw [HN.out]; exact hin2) H44.out hs3 HGD.out (by have := HD.out.few; simp; omega)
                clear hs3
                go_wp2_with fail
                go_roundw
                case rel => exact ⟨i3, _, rfl, hi3.2, HH3, HG2, HB2.out⟩
                case measure => simp [intOf]; omega
              · have e44 : (xs.getD i' 0 == 44) = false := by simpa using h44
                by_cases h125 : xs.getD i' 0 = 125
                · have e125 : (xs.getD i' 0 == 125) = true := by simpa using h125
                  have HTT : Hid _ := e_done H8.out (by rw [HN.out]; exact hin2) h125
                  clear h125 h44
                  generalize xs.getD i' 0 = zy at *
                  go_wp2_with fail
                  go_ret
                  exact ⟨⟨_, false, HTT.out, HGD.out, by rw [HN.out]; exact HFL2.out, HG2.out, .inl ⟨rfl, rfl⟩⟩, HB2.out⟩
                · have e125 : (xs.getD i' 0 == 125) = false := by simpa using h125
                  have HTT : Hid _ := e_bad H8.out (by rw [HN.out]; exact hin2) (HS2.out.stop (by rw [HN.out]; exact hin2)) h44 h125
                  clear h125 h44
                  generalize xs.getD i' 0 = zy at *
                  go_wp2_with fail
                  go_ret
                  exact ⟨⟨_, true, HTT.out, HGD.out, by rw [HN.out]; exact HFL2.out, HG2.out, .inr ⟨rfl, _, _, rfl⟩⟩, HB2.out⟩
            · have hin2' : ((i' : Int) == (n : Int)) = true := by simp; omega
              have HTT : Hid _ := e_out H8.out (by rw [HN.out]; omega)
              go_wp2_with fail
              go_ret
              exact ⟨⟨_, true, HTT.out, HGD.out, by rw [HN.out]; exact HFL2.out, HG2.out, .inr ⟨rfl, _, _, rfl⟩⟩, HB2.out⟩
          · have HTT : Hid _ := e_err HD.out hfe
            have hG1 : Hid _ := HGr.out.mono hb1
            have hb1w : Below B w w1 := hbel.trans (hb1.mono (by omega))
            have HGA : Hid (Gath B b (w1.alloc (.cells #[nilS, nilS, nilS] 35)) F) := Gath.mono hG1.out ((Below.refl _ _).alloc (Nat.le_refl _) _)
            have hsz1 : B ≤ w1.heap.size := by have := hb1w.size; omega
            clear hb1 hFA hfe hG1
            go_wp2_with fail
            go_ret
            exact ⟨⟨F, true, HTT.out, HD.out.good, by rw [HN.out]; exact hFl, HGA.out, .inr ⟨rfl, _, _, rfl⟩⟩, hb1w.alloc hsz1 _⟩
  · have hNO : i < n → xs.getD i 0 ≠ 123 := fun h hh => hop ⟨h, hh⟩
    have HTT : Hid _ := e_not HS0.out (fun h => hNO (by rw [← HN.out]; exact h))
    clear hop
    by_cases hin : i < n
    · have hci := HT.out.cell i (by rw [HN.out]; exact hin)
      have e123 : (xs.getD i 0 != 123) = true := by simpa using hNO hin
      have hin' : ((i : Int) == (n : Int)) = false := by simp; omega
      clear hNO
      generalize xs.getD i 0 = zy at *
      go_wp2_with (go_at_call 13; refine (new_any _ _).mono ?_; rintro e w1 ⟨⟨t, x, rfl⟩, hb1⟩)
      go_ret
      exact ⟨⟨[], true, HTT.out, fun t h => by simp at h, Nat.zero_le _, Gath.mono HG.out hb1, .inr ⟨rfl, _, _, rfl⟩⟩, hb1.mono (by omega)⟩
    · have hin' : ((i : Int) == (n : Int)) = true := by simp; omega
      clear hNO
      go_wp2_with (go_at_call 13; refine (new_any _ _).mono ?_; rintro e w1 ⟨⟨t, x, rfl⟩, hb1⟩)
      go_ret
      exact ⟨⟨[], true, HTT.out, fun t h => by simp at h, Nat.zero_le _, Gath.mono HG.out hb1, .inr ⟨rfl, _, _, rfl⟩⟩, hb1.mono (by omega)⟩

end Go.Proofs.Qxb6608652aDoor
