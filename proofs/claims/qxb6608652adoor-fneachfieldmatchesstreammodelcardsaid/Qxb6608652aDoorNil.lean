import Derived.Test.Qxb6608652aDoorMod2
namespace Go.Proofs.Qxb6608652aDoor
set_option linter.unusedVariables false
set_option linter.unusedSimpArgs false
open Go.ChangeShapes Go.WideShapes Go.ChangeAt Go.RowKit

theorem drewN_more (w : World) (m n : Nat) : (w.drewN m).drewN n = w.drewN (m + n) := by simp

set_option maxHeartbeats 1000000 in
/-- zzjoEq at two slices with the same cells. -/
theorem eq_any (b o n c d : Nat) (xs : List Int) (w : World) (hn : n ≤ 1048576) (hc : ∀ k, k < n → w.cell? ⟨b, o + k, none⟩ = some (.int .u8 (xs.getD (o + k) 0))) :
    Calls Tryd.prog 7 #[.slice (some ⟨b, o, none⟩) n c, .slice (some ⟨b, o, none⟩) n d] w fun e w' => e = .returned (.bool true) ∧ ∃ m, w' = w.drewN m := by
  have hself : ((n : Int) != (n : Int)) = false := by simp
  go_enter Tryd.func7, Tryd.ntmps7
  go_wp2_with fail
  go_loopw [5] (fun i wr => ∃ k m : Nat, k ≤ n ∧ i = .int .i64 k ∧ Hid (wr = w.drewN m)) (fun i _ => n - (intOf i).toNat)
  case atStart => exact ⟨0, 0, Nat.zero_le _, rfl, rfl⟩
  case round =>
    obtain ⟨k, m, hk, rfl, HW⟩ := hrel
    by_cases hlt : k < n
    · have h1 : wr.cell? ⟨b, o + k, none⟩ = some (.int .u8 (xs.getD (o + k) 0)) := by rw [HW.out]; exact hc k hlt
      clear hc
      generalize xs.getD (o + k) 0 = z at *
      have hz : (z != z) = false := by simp
      go_wp2_with fail
      go_quiet (fail)
      go_wp2
      go_roundw
      case rel => exact ⟨k + 1, m + nq, by omega, by go_num, by have := HW.out; subst this; exact drewN_more w m nq⟩
      case measure => simp [intOf]; omega
    · go_wp2
      go_ret
      exact ⟨rfl, m, HW.out⟩

set_option maxHeartbeats 1000000 in
theorem skip_nil (w : World) : Calls Tryd.prog 12 #[.slice none 0 0, .int .i64 0] w fun e w' => e = .returned (.int .i64 0) ∧ w' = w := by
  go_enter Tryd.func12, Tryd.ntmps12
  go_wp2_with fail
  go_loop [1] (fun i => i = .int .i64 0) (fun i => 0)
  case atStart => rfl
  case round =>
    subst hrel
    go_wp2
    go_ret
    exact ⟨rfl, rfl⟩

set_option maxHeartbeats 1000000 in
theorem each_nil (B : Nat) (w : World) :
    Calls Tryd.prog 8 #[.slice none 0 0, .func (.func 9) #[] #[.pointer (some ⟨B, 0, none⟩), .pointer (some ⟨B + 1, 0, none⟩), .pointer (some ⟨B + 2, 0, none⟩)]] w fun e w' => (∃ t x, e = .returned (.iface t x)) ∧ Below w.heap.size w w' := by
  have hK := fun w => skip_nil w
  go_enter Tryd.func8, Tryd.ntmps8
  go_wp2_with (first | (go_at_call 12; refine (hK _).mono ?_; rintro e w' ⟨rfl, hw⟩; have hw2 := hw.symm; subst hw2; clear hw) | (go_at_call 13; refine (new_any _ _).mono ?_; rintro e w1 ⟨⟨t, x, rfl⟩, hb1⟩))
  go_ret
  exact ⟨⟨_, _, rfl⟩, hb1⟩

set_option maxHeartbeats 2000000 in
set_option maxRecDepth 100000 in
/-- ZZeachField at nil. -/
theorem zz_nil (w : World) : Calls Tryd.prog 5 #[.slice none 0 0] w (ZPost [] 0 w) := by
  have hb0 : Below w.heap.size w (((w.alloc (.cells #[.slice none 0 0] 24)).alloc (.cells #[.slice none 0 0] 24)).alloc (.cells #[.slice none 0 0] 24)) := (((Below.refl _ _).alloc (Nat.le_refl _) _).alloc (by simp) _).alloc (by simp; omega) _
  have hC := each_nil w.heap.size (((w.alloc (.cells #[.slice none 0 0] 24)).alloc (.cells #[.slice none 0 0] 24)).alloc (.cells #[.slice none 0 0] 24))
  have HG0 : Hid _ := gath_start w 0
  have HB0 : Hid _ := hb0
  clear hb0
  go_enter Tryd.func5, Tryd.ntmps5
  go_wp2_with fail
  refine hC.mono ?_
  rintro e w1 ⟨⟨t, x, rfl⟩, hb2⟩
  obtain ⟨F, hF⟩ : ∃ F : List (Nat × Nat × Nat × Nat), F = [] := ⟨_, rfl⟩
  have htot : total [] = (F, true) := by rw [hF]; rfl
  have hgood : Good ([] : List Int).length F := by rw [hF]; exact fun t h => by simp at h
  have hlen : F.length ≤ ([] : List Int).length := by rw [hF]; exact Nat.zero_le _
  obtain ⟨v0, v1, v2, hSt⟩ := Gath.mono HG0.out hb2
  rw [← hF] at hSt
  have hb1 : Below w.heap.size (((w.alloc (.cells #[.slice none 0 0] 24)).alloc (.cells #[.slice none 0 0] 24)).alloc (.cells #[.slice none 0 0] 24)) w1 := hb2.mono (by simp; omega)
  clear hF hb2
  obtain ⟨hc0, hc1, hc2, o0, o1, o2, a01, a02, a12, hlt⟩ := hSt
  have n0 : (nameV 0 F).length = F.length := by simp [nameV]
  have n1 : (valV 0 F).length = F.length := by simp [valV]
  have n2 : (textV 0 F).length = F.length := by simp [textV]
  rw [n0] at o0
  rw [n1] at o1
  rw [n2] at o2
  obtain ⟨q0, y0, rfl⟩ := own_slice o0
  obtain ⟨q1, y1, rfl⟩ := own_slice o1
  obtain ⟨q2, y2, rfl⟩ := own_slice o2
  have g0 := cell_box hc0
  have g1 := cell_box hc1
  have g2 := cell_box hc2
  have g2' : w1.cell? ⟨w.heap.size + 1 + 1, 0, none⟩ = some (.slice q2 F.length y2) := g2
  have f0 := free_box hc0
  have f1 := free_box hc1
  have f2 := free_box hc2
  have HT : Hid _ := htot
  have HG : Hid _ := hgood
  have HL : Hid _ := hlen
  have HO0 : Hid _ := o0
  have HO1 : Hid _ := o1
  have HO2 : Hid _ := o2
  have HB1 : Hid (Below w.heap.size w w1) := HB0.out.trans hb1
  clear hc0 hc1 hc2 a01 a02 a12 htot hgood hlen o0 o1 o2 hb1 hC HB0 n0 n1 n2 HG0
  · go_wp2_with fail
    go_region
    go_wp2
    refine bodyPost_ret (v := .tuple #[.slice q0 F.length y0, .slice q1 F.length y1, .slice q2 F.length y2, .bool true]) (by simp [results, Tryd.results5, go_sem, g0, g1, g2, g2']) rfl ⟨F, true, _, _, _, HT.out, HG.out, HL.out, rfl, ?_, ?_, ?_, ?_⟩
    · exact own_base (ownsRow_setCell_below (ownsRow_setCell_below (ownsRow_setCell_below HO0.out (by show w.heap.size < w.heap.size + 3; omega) _) (by show w.heap.size + 1 < w.heap.size + 3; omega) _) (by show w.heap.size + 1 + 1 < w.heap.size + 3; omega) _).drew (by omega)
    · exact own_base (ownsRow_setCell_below (ownsRow_setCell_below (ownsRow_setCell_below HO1.out (by show w.heap.size < w.heap.size + 3; omega) _) (by show w.heap.size + 1 < w.heap.size + 3; omega) _) (by show w.heap.size + 1 + 1 < w.heap.size + 3; omega) _).drew (by omega)
    · exact own_base (ownsRow_setCell_below (ownsRow_setCell_below (ownsRow_setCell_below HO2.out (by show w.heap.size < w.heap.size + 3; omega) _) (by show w.heap.size + 1 < w.heap.size + 3; omega) _) (by show w.heap.size + 1 + 1 < w.heap.size + 3; omega) _).drew (by omega)
    · exact (((HB1.out.setCell (Nat.le_refl _) _).setCell (by show w.heap.size ≤ w.heap.size + 1; omega) _).setCell (by show w.heap.size ≤ w.heap.size + 1 + 1; omega) _).drew


set_option maxHeartbeats 2000000 in
set_option maxRecDepth 100000 in
/-- zzjoModelFields at nil. -/
theorem model_nil (w : World) : Calls Tryd.prog 6 #[.slice none 0 0] w (MPost [] w) := by
  go_enter Tryd.func6, Tryd.ntmps6
  go_wp2
  go_loopw [2, 3, 4, 5, 7, 14] (fun v1 v2 v3 v4 s7 s14 wr => v1 = .slice none 0 0 ∧ v2 = .slice none 0 0 ∧ v3 = .slice none 0 0 ∧ v4 = .slice none 0 0 ∧ s7 = .int .i64 0 ∧ s14 = .int .i64 0 ∧ Hid (wr = w)) (fun _ _ _ _ _ _ _ => 0)
  case atStart => exact ⟨rfl, rfl, rfl, rfl, rfl, rfl, rfl⟩
  case round =>
    obtain ⟨rfl, rfl, rfl, rfl, rfl, rfl, HW⟩ := hrel
    go_wp2
    exact bodyPost_ret (v := .tuple #[.slice none 0 0, .slice none 0 0, .slice none 0 0, .slice none 0 0, .bool true]) (by simp [results, Tryd.results6, go_sem]) rfl ⟨_, _, _, _, [], true, rfl, rfl, Four.start _ _, by rw [HW.out]; exact Below.refl _ _⟩

end Go.Proofs.Qxb6608652aDoor
