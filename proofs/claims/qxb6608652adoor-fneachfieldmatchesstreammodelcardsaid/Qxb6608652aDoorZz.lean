import Derived.Test.Qxb6608652aDoorEach2
namespace Go.Proofs.Qxb6608652aDoor
set_option linter.unusedVariables false
set_option linter.unusedSimpArgs false
open Go.ChangeShapes Go.WideShapes Go.ChangeAt Go.RowKit

theorem own_slice {w : World} {B e n : Nat} {v : Value} {us : List Value} (h : w.ownsRow B e 1 v n us) : ∃ q cap, v = .slice q n cap := by
  rcases h.2 with ⟨hv, h0⟩ | ⟨g, cap, _, hv, _⟩
  · exact ⟨none, 0, by rw [hv, h0]⟩
  · exact ⟨_, cap, hv⟩

/-- What ZZeachField hands back. -/
def ZPost (xs : List Int) (b : Nat) (w : World) (e : Ending) (w' : World) : Prop :=
  ∃ (F : List (Nat × Nat × Nat × Nat)) (fl : Bool) (v0 v1 v2 : Value), total xs = (F, fl) ∧ Good xs.length F ∧ F.length ≤ xs.length ∧ e = .returned (.tuple #[v0, v1, v2, .bool fl]) ∧
    w'.ownsRow w.heap.size 22 1 v0 F.length (nameV b F) ∧ w'.ownsRow w.heap.size 22 1 v1 F.length (valV b F) ∧ w'.ownsRow w.heap.size 22 1 v2 F.length (textV b F) ∧ Below w.heap.size w w'

theorem gath_start (w : World) (b : Nat) : Gath w.heap.size b (((w.alloc (.cells #[.slice none 0 0] 24)).alloc (.cells #[.slice none 0 0] 24)).alloc (.cells #[.slice none 0 0] 24)) [] := by
  have s1 : (w.alloc (.cells #[.slice none 0 0] 24)).heap.size = w.heap.size + 1 := by simp
  have s2 : ((w.alloc (.cells #[.slice none 0 0] 24)).alloc (.cells #[.slice none 0 0] 24)).heap.size = w.heap.size + 2 := by simp
  have h0 := heap_alloc_new w (.cells #[.slice none 0 0] 24)
  have h1 := heap_alloc_new (w.alloc (.cells #[.slice none 0 0] 24)) (.cells #[.slice none 0 0] 24)
  have h2 := heap_alloc_new ((w.alloc (.cells #[.slice none 0 0] 24)).alloc (.cells #[.slice none 0 0] 24)) (.cells #[.slice none 0 0] 24)
  rw [s1] at h1
  rw [s2] at h2
  refine ⟨.slice none 0 0, .slice none 0 0, .slice none 0 0, ?_, ?_, h2, World.ownsRow_nil _ _ _ _, World.ownsRow_nil _ _ _ _, World.ownsRow_nil _ _ _ _, Apart.nil _, Apart.nil _, Apart.nil _, by simp⟩
  · rw [heap_alloc_lt _ _ (by rw [s2]; omega), heap_alloc_lt _ _ (by rw [s1]; omega)]; exact h0
  · rw [heap_alloc_lt _ _ (by rw [s2]; omega)]; exact h1

theorem own_base {w : World} {B B' e n : Nat} {v : Value} {us : List Value} (h : w.ownsRow B e 1 v n us) (hB : B' ≤ B) : w.ownsRow B' e 1 v n us := by
  refine ⟨h.1, ?_⟩
  rcases h.2 with h2 | ⟨g, cap, cur, hv, hg, r⟩
  · exact .inl h2
  · exact .inr ⟨g, cap, cur, hv, by omega, r⟩

set_option maxHeartbeats 2000000 in
set_option maxRecDepth 100000 in
/-- ZZeachField. -/
theorem zz_any (b n : Nat) (xs : List Int) (w : World) (ea : Addr) (hE : w.cell? ⟨0, 0, none⟩ = some (EM ea)) (hE0 : 0 < w.heap.size) (hn : xs.length = n) (ht : Txt w b xs) :
    Calls Tryd.prog 5 #[.slice (some ⟨b, 0, none⟩) n n] w (ZPost xs b w) := by
  have hb0 : Below w.heap.size w (((w.alloc (.cells #[.slice none 0 0] 24)).alloc (.cells #[.slice none 0 0] 24)).alloc (.cells #[.slice none 0 0] 24)) := (((Below.refl _ _).alloc (Nat.le_refl _) _).alloc (by simp) _).alloc (by simp; omega) _
  have hC := each_any w.heap.size b n xs _ ea (by rw [hb0.cell (p := ⟨0, 0, none⟩) hE0]; exact hE) hE0 ht.lt hn (ht.mono hb0) (gath_start w b)
  have HN : Hid (xs.length = n) := hn
  have HB0 : Hid _ := hb0
  clear hn ht hb0 hE
  go_enter Tryd.func5, Tryd.ntmps5
  go_wp2_with fail
  refine hC.mono ?_
  rintro e w1 ⟨⟨F, fl, htot, hgood, hlen, ⟨v0, v1, v2, hSt⟩, hres⟩, hb1⟩
  obtain ⟨hc0, hc1, hc2, o0, o1, o2, a01, a02, a12, hlt⟩ := hSt
  have n0 : (nameV b F).length = F.length := by simp [nameV]
  have n1 : (valV b F).length = F.length := by simp [valV]
  have n2 : (textV b F).length = F.length := by simp [textV]
  rw [n0] at o0
  rw [n1] at o1
  rw [n2] at o2
  obtain ⟨q0, y0, rfl⟩ := own_slice o0
  obtain ⟨q1, y1, rfl⟩ := own_slice o1
  obtain ⟨q2, y2, rfl⟩ := own_slice o2
  have g0 := cell_box hc0
  have g1 := cell_box hc1
  have g2 := cell_box hc2
  have g2' : w1.cell? ⟨w.heap.size + 1 + 1, 0, none⟩ = some (.slice q2 F.length y2) := g2
  have f0 := free_box hc0
  have f1 := free_box hc1
  have f2 := free_box hc2
  have HT : Hid _ := htot
  have HG : Hid _ := hgood
  have HL : Hid _ := hlen
  have HO0 : Hid _ := o0
  have HO1 : Hid _ := o1
  have HO2 : Hid _ := o2
  have HB1 : Hid (Below w.heap.size w w1) := HB0.out.trans hb1
  clear hc0 hc1 hc2 a01 a02 a12 htot hgood hlen o0 o1 o2 hb1 hC HB0 n0 n1 n2
  rcases hres with ⟨rfl, rfl⟩ | ⟨rfl, t, x, rfl⟩
  · go_wp2_with fail
    go_region
    go_wp2
    refine bodyPost_ret (v := .tuple #[.slice q0 F.length y0, .slice q1 F.length y1, .slice q2 F.length y2, .bool false]) (by simp [results, Tryd.results5, go_sem, g0, g1, g2, g2']) rfl ⟨F, false, _, _, _, HT.out, HG.out, HL.out, rfl, ?_, ?_, ?_, ?_⟩
    · exact own_base (ownsRow_setCell_below (ownsRow_setCell_below (ownsRow_setCell_below HO0.out (by show w.heap.size < w.heap.size + 3; omega) _) (by show w.heap.size + 1 < w.heap.size + 3; omega) _) (by show w.heap.size + 1 + 1 < w.heap.size + 3; omega) _).drew (by omega)
    · exact own_base (ownsRow_setCell_below (ownsRow_setCell_below (ownsRow_setCell_below HO1.out (by show w.heap.size < w.heap.size + 3; omega) _) (by show w.heap.size + 1 < w.heap.size + 3; omega) _) (by show w.heap.size + 1 + 1 < w.heap.size + 3; omega) _).drew (by omega)
    · exact own_base (ownsRow_setCell_below (ownsRow_setCell_below (ownsRow_setCell_below HO2.out (by show w.heap.size < w.heap.size + 3; omega) _) (by show w.heap.size + 1 < w.heap.size + 3; omega) _) (by show w.heap.size + 1 + 1 < w.heap.size + 3; omega) _).drew (by omega)
    · exact (((HB1.out.setCell (Nat.le_refl _) _).setCell (by show w.heap.size ≤ w.heap.size + 1; omega) _).setCell (by show w.heap.size ≤ w.heap.size + 1 + 1; omega) _).drew
  · go_wp2_with fail
    go_region
    go_wp2
    refine bodyPost_ret (v := .tuple #[.slice q0 F.length y0, .slice q1 F.length y1, .slice q2 F.length y2, .bool true]) (by simp [results, Tryd.results5, go_sem, g0, g1, g2, g2']) rfl ⟨F, true, _, _, _, HT.out, HG.out, HL.out, rfl, ?_, ?_, ?_, ?_⟩
    · exact own_base (ownsRow_setCell_below (ownsRow_setCell_below (ownsRow_setCell_below HO0.out (by show w.heap.size < w.heap.size + 3; omega) _) (by show w.heap.size + 1 < w.heap.size + 3; omega) _) (by show w.heap.size + 1 + 1 < w.heap.size + 3; omega) _).drew (by omega)
    · exact own_base (ownsRow_setCell_below (ownsRow_setCell_below (ownsRow_setCell_below HO1.out (by show w.heap.size < w.heap.size + 3; omega) _) (by show w.heap.size + 1 < w.heap.size + 3; omega) _) (by show w.heap.size + 1 + 1 < w.heap.size + 3; omega) _).drew (by omega)
    · exact own_base (ownsRow_setCell_below (ownsRow_setCell_below (ownsRow_setCell_below HO2.out (by show w.heap.size < w.heap.size + 3; omega) _) (by show w.heap.size + 1 < w.heap.size + 3; omega) _) (by show w.heap.size + 1 + 1 < w.heap.size + 3; omega) _).drew (by omega)
    · exact (((HB1.out.setCell (Nat.le_refl _) _).setCell (by show w.heap.size ≤ w.heap.size + 1; omega) _).setCell (by show w.heap.size ≤ w.heap.size + 1 + 1; omega) _).drew

end Go.Proofs.Qxb6608652aDoor
