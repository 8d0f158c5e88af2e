import Derived.Test.Qxb6608652aDoorVal2
import Derived.RegionTactic
import Derived.BigRegion
namespace Go.Proofs.Qxb6608652aDoor
set_option linter.unusedVariables false
set_option linter.unusedSimpArgs false
open Go.ChangeShapes Go.WideShapes Go.ChangeAt Go.RowKit

abbrev nilS : Value := .slice none 0 0
/-- The world inside fieldAt: the result's own block lies at B. -/
structure FW (w W : World) : Prop where
  bel : Below w.heap.size w W
  lt : w.heap.size < W.heap.size
  c0 : W.cell? ⟨w.heap.size, 0, none⟩ = some nilS
  c1 : W.cell? ⟨w.heap.size, 1, none⟩ = some nilS
  c2 : W.cell? ⟨w.heap.size, 2, none⟩ = some nilS
  z0 : W.frozen? ⟨w.heap.size, 0, none⟩ = false
  z1 : W.frozen? ⟨w.heap.size, 1, none⟩ = false
  z2 : W.frozen? ⟨w.heap.size, 2, none⟩ = false
theorem FW.start (w : World) : FW w (w.alloc (.cells #[nilS, nilS, nilS] 35)) := by
  have h := heap_alloc_new w (.cells #[nilS, nilS, nilS] 35)
  refine ⟨(Below.refl _ _).alloc (Nat.le_refl _) _, by simp, ?_, ?_, ?_, ?_, ?_, ?_⟩
  · simp only [World.cell?, h]; rfl
  · simp only [World.cell?, h]; rfl
  · simp only [World.cell?, h]; rfl
  · simp only [World.frozen?, h]; rfl
  · simp only [World.frozen?, h]; rfl
  · simp only [World.frozen?, h]; rfl
theorem FW.mono {w W W' : World} (h : FW w W) (hb : Below W.heap.size W W') : FW w W' :=
  ⟨h.bel.trans (hb.mono h.bel.size), Nat.lt_of_lt_of_le h.lt hb.size, by rw [hb.cell (p := ⟨w.heap.size, 0, none⟩) h.lt]; exact h.c0, by rw [hb.cell (p := ⟨w.heap.size, 1, none⟩) h.lt]; exact h.c1, by rw [hb.cell (p := ⟨w.heap.size, 2, none⟩) h.lt]; exact h.c2,
    by rw [hb.frozen (p := ⟨w.heap.size, 0, none⟩) h.lt]; exact h.z0, by rw [hb.frozen (p := ⟨w.heap.size, 1, none⟩) h.lt]; exact h.z1, by rw [hb.frozen (p := ⟨w.heap.size, 2, none⟩) h.lt]; exact h.z2⟩

/-- How fieldAt ends. -/
def FPost (xs : List Int) (b : Nat) (ea : Addr) (k : Nat) (w : World) (e : Ending) (w' : World) : Prop :=
  ((∃ ne vs r : Nat, e = .returned (.tuple #[.agg #[.slice (some ⟨b, k, none⟩) (ne - k) (ne - k), .slice (some ⟨b, vs, none⟩) (r - vs) (r - vs), .slice (some ⟨b, k, none⟩) (r - k) (r - k)], .int .i64 (r : Int), .nilIface]) ∧ FOk xs k ne vs r) ∨
    (e = .returned (.tuple #[.agg #[nilS, nilS, nilS], .int .i64 0, EM ea]) ∧ FErr xs k)) ∧ Below w.heap.size w w'

set_option maxHeartbeats 1000000 in
set_option maxRecDepth 100000 in
/-- fieldAt at the text's end. -/
theorem field_end (b n : Nat) (xs : List Int) (w : World) (ea : Addr) (hE : w.cell? ⟨0, 0, none⟩ = some (EM ea)) (hE0 : 0 < w.heap.size) (hn : xs.length = n) (hle : n ≤ 1048576) :
    Calls Tryd.prog 14 #[.slice (some ⟨b, 0, none⟩) n n, .int .i64 (n : Int)] w (FPost xs b ea n w) := by
  have HN : Hid (n = xs.length) := hn.symm
  clear hn
  have hself : ((n : Int) == (n : Int)) = true := by simp
  have hEs : ∀ o, (w.alloc o).cell? ⟨0, 0, none⟩ = some (EM ea) := fun o => by rw [((Below.refl w.heap.size w).alloc (Nat.le_refl _) o).cell (p := ⟨0, 0, none⟩) hE0]; exact hE
  go_enter Tryd.func14, Tryd.ntmps14
  go_wp2_with fail
  go_region
  go_wp2
  exact bodyPost_ret (v := .tuple #[.agg #[nilS, nilS, nilS], .int .i64 0, EM ea]) (by simp [results, Tryd.results14, go_sem]) rfl ⟨.inr ⟨rfl, f_end HN.out⟩, ((Below.refl _ _).alloc (Nat.le_refl _) _).drew⟩

set_option maxHeartbeats 1000000 in
set_option maxRecDepth 100000 in
/-- fieldAt where no name begins. -/
theorem field_noquote (b n k : Nat) (xs : List Int) (w : World) (ea : Addr) (hE : w.cell? ⟨0, 0, none⟩ = some (EM ea)) (hE0 : 0 < w.heap.size) (hn : xs.length = n) (hk : k < n) (ht : Txt w b xs) (hw : ws (xs.getD k 0) = false) (h34 : xs.getD k 0 ≠ 34) :
    Calls Tryd.prog 14 #[.slice (some ⟨b, 0, none⟩) n n, .int .i64 (k : Int)] w (FPost xs b ea k w) := by
  have hle := ht.len
  rw [hn] at hle
  have HV : Hid (FErr xs k) := f_noquote (by omega) hw h34
  have hc := (ht.mono ((Below.refl _ _).alloc (Nat.le_refl _) (.cells #[nilS, nilS, nilS] 35))).cell k (by omega)
  have hne : (xs.getD k 0 != 34) = true := by simpa using h34
  have hkn : ((k : Int) == (n : Int)) = false := by simp; omega
  clear hn ht hw h34
  generalize xs.getD k 0 = z at *
  go_enter Tryd.func14, Tryd.ntmps14
  go_wp2_with fail
  go_region
  go_wp2
  exact bodyPost_ret (v := .tuple #[.agg #[nilS, nilS, nilS], .int .i64 0, EM ea]) (by simp [results, Tryd.results14, go_sem]) rfl ⟨.inr ⟨rfl, HV.out⟩, ((Below.refl _ _).alloc (Nat.le_refl _) _).drew⟩

set_option maxHeartbeats 4000000 in
set_option maxRecDepth 100000 in
/-- fieldAt where a name begins. -/
theorem field_quote (b n k : Nat) (xs : List Int) (w : World) (ea : Addr) (hE : w.cell? ⟨0, 0, none⟩ = some (EM ea)) (hE0 : 0 < w.heap.size) (hn : xs.length = n) (hk : k < n) (ht : Txt w b xs) (h34 : xs.getD k 0 = 34) :
    Calls Tryd.prog 14 #[.slice (some ⟨b, 0, none⟩) n n, .int .i64 (k : Int)] w (FPost xs b ea k w) := by
  have hle := ht.len
  rw [hn] at hle
  have HN : Hid (xs.length = n) := hn
  have hb0 : Below w.heap.size w (w.alloc (.cells #[nilS, nilS, nilS] 35)) := (Below.refl _ _).alloc (Nat.le_refl _) _
  have ht0 := ht.mono hb0
  have hE1 : (w.alloc (.cells #[nilS, nilS, nilS] 35)).cell? ⟨0, 0, none⟩ = some (EM ea) := by rw [hb0.cell (p := ⟨0, 0, none⟩) hE0]; exact hE
  have hc := ht0.cell k (by omega)
  rw [h34] at hc
  have hkn : ((k : Int) == (n : Int)) = false := by simp; omega
  have hS := send_any b n k xs _ ea hE1 hn hk ht0
  have H34 : Hid _ := h34
  have HT0 : Hid _ := ht0
  have HF0 : Hid _ := FW.start w
  clear hn ht h34 ht0 hb0 hE
  go_enter Tryd.func14, Tryd.ntmps14
  go_wp2_with fail
  refine hS.mono ?_
  rintro e w1 ⟨h | ⟨rfl, hno⟩, hb1⟩
  · obtain ⟨ne, rfl, hs⟩ := h
    have hne1 : k < ne ∧ ne ≤ n := by obtain ⟨dd, hr, hr2, _⟩ := hs.at'; rw [HN.out] at hr2; omega
    have ht1 := Txt.mono HT0.out hb1
    have hf1 := FW.mono HF0.out hb1
    have hE2 : w1.cell? ⟨0, 0, none⟩ = some (EM ea) := by rw [hb1.cell (p := ⟨0, 0, none⟩) (by simp)]; exact hE1
    have hK1 := skip_any b n ne xs w1 HN.out hne1.2 ht1
    have HS : Hid _ := hs
    have HT1 : Hid _ := ht1
    have HF1 : Hid _ := hf1
    clear hs hb1 hS HT0 HF0 ht1 hf1
    go_wp2_with fail
    refine hK1.mono ?_
    rintro e w' ⟨⟨c, rfl, hsk⟩, hw⟩
    have hw2 := hw.symm
    subst hw2
    clear hw hK1
    have hc1 : ne ≤ c ∧ c ≤ n := ⟨hsk.lo, by rw [← HN.out]; exact hsk.hi⟩
    have HSK : Hid _ := hsk
    clear hsk
    obtain ⟨fbel, flt, c0, c1, c2, z0, z1, z2⟩ := HF1.out
    by_cases hcn : c < n
    · have hcc := HT1.out.cell c (by rw [HN.out]; exact hcn)
      have hckn : ((c : Int) == (n : Int)) = false := by simp; omega
      by_cases h58 : xs.getD c 0 = 58
      · rw [h58] at hcc
        have hK2 := skip_any b n (c + 1) xs w1 HN.out hcn HT1.out
        have H58 : Hid _ := h58
        clear h58
        go_wp2_with fail
        refine hK2.mono ?_
        rintro e w' ⟨⟨vs, rfl, hsk2⟩, hw⟩
        have hw2 := hw.symm
        subst hw2
        clear hw hK2
        have hv1 : c + 1 ≤ vs ∧ vs ≤ n := ⟨hsk2.lo, by rw [← HN.out]; exact hsk2.hi⟩
        have hV := vend_any b n vs xs w1 ea hE2 (by have := flt; omega) HN.out hv1.2 HT1.out (fun h => hsk2.stop (by rw [HN.out]; exact h))
        have HSK2 : Hid _ := hsk2
        clear hsk2
        go_wp2_with fail
        refine hV.mono ?_
        rintro e w2 ⟨h | ⟨rfl, hno⟩, hb2⟩
        · obtain ⟨r, dd, rfl, hok⟩ := h
          have HOK : Hid (FOk xs k ne vs r) := f_ok (by rw [HN.out]; exact hk) H34.out HS.out HSK.out (by rw [HN.out]; exact hcn) H58.out HSK2.out hok
          have hr1 : vs < r ∧ r ≤ n := ⟨hok.1, by rw [← HN.out]; exact hok.2.1⟩
          obtain ⟨gbel, glt, d0, d1, d2, y0, y1, y2⟩ := FW.mono HF1.out hb2
          clear hok hb2 hV c0 c1 c2 z0 z1 z2 hcc HT1 HF1 HSK HSK2 HS
          go_wp2_with fail
          go_region
          go_wp2
          exact bodyPost_ret (v := .tuple #[.agg #[.slice (some ⟨b, k, none⟩) (ne - k) (ne - k), .slice (some ⟨b, vs, none⟩) (r - vs) (r - vs), .slice (some ⟨b, k, none⟩) (r - k) (r - k)], .int .i64 (r : Int), .nilIface]) (by simp [results, Tryd.results14, go_sem, d0, d1, d2]) rfl
            ⟨.inl ⟨ne, vs, r, rfl, HOK.out⟩, (((gbel.setCell (Nat.le_refl _) _).setCell (Nat.le_refl _) _).setCell (Nat.le_refl _) _).drew⟩
        · have HV : Hid (FErr xs k) := f_novalue (by rw [HN.out]; exact hk) H34.out HS.out HSK.out (by rw [HN.out]; exact hcn) H58.out HSK2.out hno
          obtain ⟨gbel, glt, d0, d1, d2, y0, y1, y2⟩ := FW.mono HF1.out hb2
          clear hno hb2 hV c0 c1 c2 z0 z1 z2 hcc HT1 HF1 HSK HSK2 HS
          go_wp2
          exact bodyPost_ret (v := .tuple #[.agg #[nilS, nilS, nilS], .int .i64 0, EM ea]) (by simp [results, Tryd.results14, go_sem, d0, d1, d2]) rfl ⟨.inr ⟨rfl, HV.out⟩, (((gbel.setCell (Nat.le_refl _) _).setCell (Nat.le_refl _) _).setCell (Nat.le_refl _) _)⟩
      · have HV : Hid (FErr xs k) := f_nocolon (by rw [HN.out]; exact hk) H34.out HS.out HSK.out (fun _ => h58)
        have e58 : (xs.getD c 0 != 58) = true := by simpa using h58
        clear h58 HT1 HF1 HSK HS
        generalize xs.getD c 0 = y at *
        go_wp2_with fail
        go_region
        go_wp2
        exact bodyPost_ret (v := .tuple #[.agg #[nilS, nilS, nilS], .int .i64 0, EM ea]) (by simp [results, Tryd.results14, go_sem, c0, c1, c2]) rfl ⟨.inr ⟨rfl, HV.out⟩, (((fbel.setCell (Nat.le_refl _) _).setCell (Nat.le_refl _) _).setCell (Nat.le_refl _) _).drew⟩
    · have HV : Hid (FErr xs k) := f_nocolon (by rw [HN.out]; exact hk) H34.out HS.out HSK.out (fun h => absurd h (by rw [HN.out]; exact hcn))
      have hckn : ((c : Int) == (n : Int)) = true := by simp; omega
      clear HT1 HF1 HSK HS
      go_wp2_with fail
      go_region
      go_wp2
      exact bodyPost_ret (v := .tuple #[.agg #[nilS, nilS, nilS], .int .i64 0, EM ea]) (by simp [results, Tryd.results14, go_sem, c0, c1, c2]) rfl ⟨.inr ⟨rfl, HV.out⟩, (((fbel.setCell (Nat.le_refl _) _).setCell (Nat.le_refl _) _).setCell (Nat.le_refl _) _).drew⟩
  · have HV : Hid (FErr xs k) := f_noname (by rw [HN.out]; exact hk) H34.out hno
    obtain ⟨gbel, glt, d0, d1, d2, y0, y1, y2⟩ := FW.mono HF0.out hb1
    clear hno hb1 hS HT0 HF0
    go_wp2
    exact bodyPost_ret (v := .tuple #[.agg #[nilS, nilS, nilS], .int .i64 0, EM ea]) (by simp [results, Tryd.results14, go_sem, d0, d1, d2]) rfl ⟨.inr ⟨rfl, HV.out⟩, (((gbel.setCell (Nat.le_refl _) _).setCell (Nat.le_refl _) _).setCell (Nat.le_refl _) _)⟩

/-- fieldAt. -/
theorem field_any (b n k : Nat) (xs : List Int) (w : World) (ea : Addr) (hE : w.cell? ⟨0, 0, none⟩ = some (EM ea)) (hE0 : 0 < w.heap.size) (hn : xs.length = n) (hk : k ≤ n) (ht : Txt w b xs) (hw : k < n → ws (xs.getD k 0) = false) :
    Calls Tryd.prog 14 #[.slice (some ⟨b, 0, none⟩) n n, .int .i64 (k : Int)] w (FPost xs b ea k w) := by
  by_cases hkn : k < n
  · by_cases h34 : xs.getD k 0 = 34
    · exact field_quote b n k xs w ea hE hE0 hn hkn ht h34
    · exact field_noquote b n k xs w ea hE hE0 hn hkn ht (hw hkn) h34
  · obtain rfl : k = n := by omega
    exact field_end b k xs w ea hE hE0 hn (by have := ht.len; omega)

end Go.Proofs.Qxb6608652aDoor
