import Derived.Test.Qxb6606183aMod3
namespace Go.Proofs.Qxb6606183a
set_option linter.unusedVariables false
set_option linter.unusedSimpArgs false
open Go.ChangeShapes Go.WideShapes Go.ChangeAt Go.RowKit

set_option maxHeartbeats 400000 in
theorem bytes14_yes (a : ByteArray) (w : World) (hn : a.size ≤ 1048576) : Calls Try.prog 14 #[.string a] w fun e w' => e = .returned (.bool true) ∧ w' = w := by
  go_enter Try.func14, Try.ntmps14
  go_wp2
  go_ret
  exact ⟨rfl, rfl⟩

set_option maxHeartbeats 400000 in
theorem bytes14_no (a : ByteArray) (w : World) (hn : 1048576 < a.size) : Calls Try.prog 14 #[.string a] w fun e w' => e = .returned (.bool false) ∧ w' = w := by
  go_enter Try.func14, Try.ntmps14
  go_wp2
  go_ret
  exact ⟨rfl, rfl⟩

set_option maxHeartbeats 400000 in
theorem merge_big (a : ByteArray) (w : World) (hn : 1048576 < a.size) : Calls Try.prog 5 #[.string a] w fun e w' => e = .returned (.bool true) ∧ w' = w := by
  go_enter Try.func5, Try.ntmps5
  go_wp2_with (go_at_call 14; refine (bytes14_no _ _ hn).mono ?_; rintro e w' ⟨rfl, rfl⟩)
  go_ret
  exact ⟨rfl, rfl⟩

set_option maxHeartbeats 1000000 in
theorem merge_small (a : ByteArray) (w : World) (hn : a.size ≤ 1048576) : Calls Try.prog 5 #[.string a] w fun e w' => e = .returned (.bool true) ∧ Below w.heap.size w w' := by
  have hla := tok_len _ a.data.toList (Nat.le_refl _)
  have hsa : a.data.toList.length = a.size := Array.length_toList
  rw [hsa] at hla
  have hN : (tok a.data.toList).length + 1 ≤ 2097153 := by omega
  have hN0 : 0 < (tok a.data.toList).length + 1 := by omega
  have hlen : (tok a.data.toList ++ [(0, [])]).length = (tok a.data.toList).length + 1 := by simp
  have HA := fun w => zz_at a w (by omega) _ _ rfl hlen
  have HM := fun w => model_any a w (by omega)
  clear hla hsa
  generalize tok a.data.toList ++ [(0, [])] = L at *
  generalize (tok a.data.toList).length + 1 = N at *
  have HLEN : Hid (L.length = N) := hlen
  clear hlen
  go_enter Try.func5, Try.ntmps5
  go_wp2_with (go_at_call 14; refine (bytes14_yes _ _ hn).mono ?_; rintro e w' ⟨rfl, hw⟩; have hw2 := hw.symm; subst hw2; clear hw)
  refine (HA _).mono ?_
  rintro e w1 ⟨b1, rfl, hb1, hk1, hB1⟩
  go_wp2_with fail
  refine (HM _).mono ?_
  rintro e w2 ⟨v, rfl, hown, hB2⟩
  obtain ⟨g, cap, rfl, hg, hcap, htk⟩ := tks_of_own HLEN.out hN0 hown
  have hk2 := hk1.mono hB2
  have HB2 : Hid (Below w.heap.size w w2) := hB1.trans (hB2.mono hB1.size)
  clear hown hB1 hB2 hk1 HA HM
  go_wp2_with fail
  refine (teq_any b1 g N N cap L _ HLEN.out hN hk2 htk (Nat.le_refl _) hcap).mono ?_
  rintro e w3 ⟨rfl, hb3⟩
  have HB3 : Hid (Below w.heap.size w w3) := HB2.out.trans (hb3.mono HB2.out.size)
  clear hb3 hk2 htk
  go_wp2_with fail
  go_ret
  exact ⟨rfl, HB3.out⟩

end Go.Proofs.Qxb6606183a
