import Derived.Test.Qxb6608652aDoorNil
import Derived.Laws.CopyOwn
import Derived.Laws.OwnMore
namespace Go.Proofs.Qxb6608652aDoor
set_option linter.unusedVariables false
set_option linter.unusedSimpArgs false
open Go.ChangeShapes Go.WideShapes Go.ChangeAt Go.RowKit

theorem Tryd.info5b : (Tryd.prog.info? 5).map (fun i => (i.zero, i.size, i.bytes)) = some (some (.int .u8 0), 1, 1) := by kernel_rfl
theorem Tryd.size5 : (Tryd.prog.info? 5).map (·.size) = some 1 := by kernel_rfl

set_option maxHeartbeats 400000 in
theorem bytes_yes (p : Option Addr) (n c : Nat) (w : World) (hn : n ≤ 1048576) : Calls Tryd.prog 4 #[.slice p n c] w fun e w' => e = .returned (.bool true) ∧ w' = w := by
  go_enter Tryd.func4, Tryd.ntmps4
  go_wp2
  go_ret
  exact ⟨rfl, rfl⟩
set_option maxHeartbeats 400000 in
theorem bytes_no (p : Option Addr) (n c : Nat) (w : World) (hn : 1048576 < n) (hm : n ≤ 9223372036854775807) : Calls Tryd.prog 4 #[.slice p n c] w fun e w' => e = .returned (.bool false) ∧ w' = w := by
  go_enter Tryd.func4, Tryd.ntmps4
  go_wp2
  go_ret
  exact ⟨rfl, rfl⟩

theorem made_at (w : World) (n : Nat) : (w.alloc (.cells (madeCells #[.int .u8 0] n) 5)).heap[w.heap.size]? = some (.cells (List.replicate n (Value.int .u8 0)).toArray 5 (0, 0)) := by
  rw [heap_alloc_new, ← toList_madeCells_one]

theorem txt_copied {w : World} {g n : Nat} {xs : List Int} (hn : xs.length = n) (hle : n ≤ 1048576) (hr : ∀ x ∈ xs, 0 ≤ x ∧ x < 256) (h : w.heap[g]? = some (.cells (splice (List.replicate n (Value.int .u8 0)) 0 (xs.map fun z => Value.int .u8 z)).toArray 5 (0, 0))) : Txt w g xs := by
  have e : splice (List.replicate n (Value.int .u8 0)) 0 (xs.map fun z => Value.int .u8 z) = xs.map fun z => Value.int .u8 z := by
    subst hn
    simp [splice]
  rw [e] at h
  refine ⟨lt_of_some h, hr, by omega, fun i hi => ?_⟩
  simp only [World.cell?]
  rw [h]
  simp [List.getD, hi]

theorem own_cells {w : World} {B e n : Nat} {v : Value} {us : List Value} (h : w.ownsRow B e 1 v n us) (hn : 0 < n) : ∃ g cap, v = .slice (some ⟨g, 0, none⟩) n cap ∧ ∀ i u, us[i]? = some u → w.cell? ⟨g, i, none⟩ = some u := by
  rcases h.2 with ⟨_, h0⟩ | ⟨g, cap, cur, hv, _⟩
  · omega
  · refine ⟨g, cap, hv, fun i u hu => ?_⟩
    have := h.cells (g := g) (by rw [hv]; rfl) i u hu
    have hadd : (⟨g, 0, none⟩ : Addr).add i = ⟨g, i, none⟩ := by unfold Addr.add; split <;> simp_all
    rwa [hadd] at this

theorem own_low {w w' : World} {B e n : Nat} {v : Value} {us : List Value} (h : w.ownsRow B e 1 v n us) (hb : Below w.heap.size w w') : w'.ownsRow B e 1 v n us :=
  h.kept (row := none) ⟨hb.os, hb.tape, hb.output, hb.size, fun k hk _ => hb.block k hk⟩ (by cases v.ownBlock <;> simp)

set_option maxHeartbeats 2000000 in
set_option maxRecDepth 100000 in
theorem top_big (p : Option Addr) (n c : Nat) (w : World) (hn : 1048576 < n) (hm : n ≤ 9223372036854775807) : Calls Tryd.prog 3 #[.slice p n c] w fun e w' => e = .returned (.bool true) ∧ w' = w := by
  have hA := fun w => bytes_no p n c w hn hm
  go_enter Tryd.func3, Tryd.ntmps3
  go_wp2_with (go_at_call 4; refine (hA _).mono ?_; rintro e w' ⟨rfl, hw⟩; have hw2 := hw.symm; subst hw2; clear hw)
  go_ret
  exact ⟨rfl, rfl⟩

set_option maxHeartbeats 4000000 in
set_option maxRecDepth 100000 in
theorem top_nil (w : World) : Calls Tryd.prog 3 #[.slice none 0 0] w fun e w' => e = .returned (.bool true) ∧ Below w.heap.size w w' := by
  have hA := fun w => bytes_yes none 0 0 w (by decide)
  have q22 : ∀ (w : World) (a : Option Addr) (n c n' c' : Nat), (binOp .neq 22 (.slice a n c) (.slice none n' c')).run Tryd.prog w = .ok (.bool (!a.isNone)) w := fun w a n c n' c' => run_neq_slice_nil_any w _ _ a n c n' c' Tryd.underlying22
  have hZ := zz_nil w
  go_enter Tryd.func3, Tryd.ntmps3
  go_wp2_with (go_at_call 4; refine (hA _).mono ?_; rintro e w' ⟨rfl, hw⟩; have hw2 := hw.symm; subst hw2; clear hw)
  refine hZ.mono ?_
  rintro e w1 ⟨F, fl, v0, v1, v2, htot, hgood, hlen, rfl, o0, o1, o2, hb1⟩
  have ht0 : total [] = ([], true) := rfl
  rw [ht0] at htot
  cases htot
  obtain ⟨q0, y0, rfl⟩ := own_slice o0
  obtain ⟨q1, y1, rfl⟩ := own_slice o1
  obtain ⟨q2, y2, rfl⟩ := own_slice o2
  have hM := model_nil w1
  have HB1 : Hid _ := hb1
  clear hZ hA hgood hlen o0 o1 o2 ht0 hb1
  go_wp2_with fail
  refine hM.mono ?_
  rintro e w2 ⟨u1, u2, u3, u4, F, fl, rfl, htot, hf, hb2⟩
  have ht0 : total [] = ([], true) := rfl
  rw [ht0] at htot
  cases htot
  obtain ⟨r1, x1, rfl⟩ := own_slice hf.o1
  have HB2 : Hid (Below w.heap.size w w2) := HB1.out.trans (hb2.mono (HB1.out.size))
  clear hM hf ht0 hb2 HB1
  go_wp2_with fail
  go_loopw [14] (fun i wr => i = .int .i64 0 ∧ Hid (wr = w2)) (fun _ _ => 0)
  case atStart => exact ⟨rfl, rfl⟩
  case round =>
    obtain ⟨rfl, HW⟩ := hrel
    go_wp2
    go_ret
    exact ⟨rfl, by rw [HW.out]; exact HB2.out⟩
end Go.Proofs.Qxb6608652aDoor
