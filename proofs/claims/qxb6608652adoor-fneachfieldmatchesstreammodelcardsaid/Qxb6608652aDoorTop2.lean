import Derived.Test.Qxb6608652aDoorTop
import Derived.Deep.RegionHeld
namespace Go.Proofs.Qxb6608652aDoor
set_option linter.unusedVariables false
set_option linter.unusedSimpArgs false
open Go.ChangeShapes Go.WideShapes Go.ChangeAt Go.RowKit

/-- What stands at the head of the law's loop: seven rows of the call's own. -/
structure Seven (w : World) (g0 g1 g2 g3 g4 g5 g6 b : Nat) (F : List (Nat × Nat × Nat × Nat)) : Prop where
  k0 : ∀ i u, (nameV b F)[i]? = some u → w.cell? ⟨g0, i, none⟩ = some u
  k1 : ∀ i u, (valV b F)[i]? = some u → w.cell? ⟨g1, i, none⟩ = some u
  k2 : ∀ i u, (textV b F)[i]? = some u → w.cell? ⟨g2, i, none⟩ = some u
  k3 : ∀ i u, (c1 F)[i]? = some u → w.cell? ⟨g3, i, none⟩ = some u
  k4 : ∀ i u, (c2 F)[i]? = some u → w.cell? ⟨g4, i, none⟩ = some u
  k5 : ∀ i u, (c3 F)[i]? = some u → w.cell? ⟨g5, i, none⟩ = some u
  k6 : ∀ i u, (c4 F)[i]? = some u → w.cell? ⟨g6, i, none⟩ = some u

/-- zzjoEq inside the law's loop. -/
theorem eq_in {w4 X : World} {m b n : Nat} {xs : List Int} (hX : X = w4.drewN m) (hT : Txt w4 b xs) (hN : xs.length = n) (hn : n ≤ 1048576) (o s c d q : Nat) (h : o + s ≤ n) :
    Calls Tryd.prog 7 #[.slice (some ⟨b, o, none⟩) s c, .slice (some ⟨b, o, none⟩) s d] (X.drewN q) fun e w'' => e = .returned (.bool true) ∧ ∃ m, w'' = X.drewN m :=
  Calls.quiet_of (eq_any b o s c d xs (X.drewN q) (by omega) (fun i hi => by
    rw [hX]
    exact hT.cell (o + i) (by rw [hN]; omega)))

set_option maxHeartbeats 8000000 in
set_option maxRecDepth 100000 in
theorem top_some (hModel : ∀ (b n : Nat) (xs : List Int) (w : World) (_ : xs.length = n) (_ : Txt w b xs), Calls Tryd.prog 6 #[.slice (some ⟨b, 0, none⟩) n n] w (MPost xs w))
    (ad : Addr) (n c : Nat) (xs : List Int) (w : World) (ea : Addr) (hE : w.cell? ⟨0, 0, none⟩ = some (EM ea)) (hE0 : 0 < w.heap.size) (hn : xs.length = n) (hle : n ≤ 1048576) (hr : ∀ x ∈ xs, 0 ≤ x ∧ x < 256)
    (hsrc : ∀ j v, (xs.map fun z => Value.int .u8 z)[j]? = some v → w.cell? (ad.add j) = some v) :
    Calls Tryd.prog 3 #[.slice (some ad) n c] w fun e w' => e = .returned (.bool true) ∧ Below w.heap.size w w' := by
  have hA := fun w => bytes_yes (some ad) n c w hle
  have q22 : ∀ (w : World) (a : Option Addr) (n c n' c' : Nat), (binOp .neq 22 (.slice a n c) (.slice none n' c')).run Tryd.prog w = .ok (.bool (!a.isNone)) w := fun w a n c n' c' => run_neq_slice_nil_any w _ _ a n c n' c' Tryd.underlying22
  have hmk := fun w => run_make_row' (P := Tryd.prog) 22 5 (.int .u8 0) 1 Tryd.underlying22 Tryd.info5b rfl .i64 .i64 n (by omega) (by omega) w
  obtain ⟨CS, hCS⟩ : ∃ CS : List Value, CS = xs.map fun z => Value.int .u8 z := ⟨_, rfl⟩
  have hCl : CS.length = n := by rw [hCS]; simpa using hn
  have hC1 : ∀ v ∈ CS, v.oneCell' = true := fun v hv => by rw [hCS] at hv; obtain ⟨z, _, rfl⟩ := List.mem_map.1 hv; rfl
  have hCsrc : ∀ j v, CS[j]? = some v → (w.alloc (.cells (madeCells #[.int .u8 0] n) 5)).cell? (ad.add j) = some v := fun j v hj => by
    rw [hCS] at hj
    rw [World.cell?_alloc_some _ _ _ (by rw [hsrc j v hj]; rfl)]; exact hsrc j v hj
  have HM : Hid _ := made_at w n
  have HCS : Hid _ := hCS
  have HCl : Hid _ := hCl
  have HC1 : Hid _ := hC1
  have HCsrc : Hid _ := hCsrc
  have HN : Hid (xs.length = n) := hn
  have HR : Hid _ := hr
  have HE : Hid _ := hE
  have hb0 : Below w.heap.size w (w.alloc (.cells (madeCells #[.int .u8 0] n) 5)) := (Below.refl _ _).alloc (Nat.le_refl _) _
  have HB0 : Hid _ := hb0
  clear hCS hCl hC1 hCsrc hsrc hn hr hE hb0
  go_enter Tryd.func3, Tryd.ntmps3
  go_wp2_with (first | (go_at_call 4; refine (hA _).mono ?_; rintro e w' ⟨rfl, hw⟩; have hw2 := hw.symm; subst hw2; clear hw) | ((refine wpList_copy_splice rfl (.tmp 26) (.tmp 27) 22 22 rfl 5 Tryd.underlying22 Tryd.size5 _ _ _ _ _ _ rfl rfl w.heap.size 0 (List.replicate n (Value.int .u8 0)) 5 HM.out CS (by rw [HCl.out]; exact (Nat.min_self n).symm) (fun _ => ⟨rfl, ad, rfl, HCsrc.out⟩) (by rw [HCl.out]; simp) HC1.out w.heap.size w HB0.out (Nat.le_refl _) ?_)))
  intro w2 HG2 hB2
  have hT2 : Txt w2 w.heap.size xs := txt_copied HN.out hle HR.out (by have := HG2.out; rw [HCS.out] at this; exact this)
  have hE2 : w2.cell? ⟨0, 0, none⟩ = some (EM ea) := by rw [hB2.cell (p := ⟨0, 0, none⟩) hE0]; exact HE.out
  have hZ := zz_any w.heap.size n xs w2 ea hE2 (Nat.lt_of_lt_of_le hE0 hB2.size) HN.out hT2
  have HT2 : Hid _ := hT2
  have HB2 : Hid _ := hB2
  clear hA hmk HM HCS HCl HC1 HCsrc HE HB0 HG2 hB2 hT2 hE2 HR q22
  go_wp2_with fail
  refine hZ.mono ?_
  rintro e w3 ⟨F, fl, v0, v1, v2, htot, hgood, hlen, rfl, o0, o1, o2, hb3⟩
  obtain ⟨q0, y0, rfl⟩ := own_slice o0
  obtain ⟨q1, y1, rfl⟩ := own_slice o1
  obtain ⟨q2, y2, rfl⟩ := own_slice o2
  have HT3 : Hid _ := HT2.out.mono hb3
  have hM := hModel w.heap.size n xs w3 HN.out HT3.out
  have HB3 : Hid (Below w.heap.size w w3) := HB2.out.trans (hb3.mono HB2.out.size)
  have HTOT : Hid _ := htot
  have HGD : Hid _ := hgood
  have hFn : F.length ≤ n := by rw [← HN.out]; exact hlen
  have HO0 : Hid _ := o0
  have HO1 : Hid _ := o1
  have HO2 : Hid _ := o2
  clear hZ o0 o1 o2 hb3 htot hgood hlen HT2 HB2
  go_wp2_with fail
  refine hM.mono ?_
  rintro e w4 ⟨u1, u2, u3, u4, F', fl', rfl, htot, hf, hb4⟩
  rw [HTOT.out] at htot
  cases htot
  have O0 := own_low HO0.out hb4
  have O1 := own_low HO1.out hb4
  have O2 := own_low HO2.out hb4
  have O3 := hf.o1
  have O4 := hf.o2
  have O5 := hf.o3
  have O6 := hf.o4
  rw [c1_len] at O3
  rw [c2_len] at O4
  rw [c3_len] at O5
  rw [c4_len] at O6
  have HT4 : Hid (Txt w4 w.heap.size xs) := HT3.out.mono hb4
  have HB4 : Hid (Below w.heap.size w w4) := HB3.out.trans (hb4.mono HB3.out.size)
  clear hM hf hb4 HO0 HO1 HO2 HT3 HB3
  have hfl : (fl != fl) = false := by cases fl <;> rfl
  have hself : ((F.length : Int) != (F.length : Int)) = false := by simp
  by_cases h0 : F.length = 0
  · obtain ⟨r1, x1, rfl⟩ := own_slice O3
    rw [h0] at *
    clear O0 O1 O2 O3 O4 O5 O6 HT4 HTOT HGD
    go_wp2_with fail
    go_loopw [14] (fun i wr => i = .int .i64 0 ∧ Hid (wr = w4)) (fun _ _ => 0)
    case atStart => exact ⟨rfl, rfl⟩
    case round =>
      obtain ⟨rfl, HW⟩ := hrel
      go_wp2
      go_ret
      exact ⟨rfl, by rw [HW.out]; exact HB4.out⟩
  · have hpos : 0 < F.length := by omega
    obtain ⟨g0, z0, e0, k0⟩ := own_cells O0 hpos
    obtain ⟨g1, z1, e1, k1⟩ := own_cells O1 hpos
    obtain ⟨g2, z2, e2, k2⟩ := own_cells O2 hpos
    obtain ⟨g3, z3, e3, k3⟩ := own_cells O3 hpos
    obtain ⟨g4, z4, e4, k4⟩ := own_cells O4 hpos
    obtain ⟨g5, z5, e5, k5⟩ := own_cells O5 hpos
    obtain ⟨g6, z6, e6, k6⟩ := own_cells O6 hpos
    cases e0
    cases e1
    cases e2
    subst e3 e4 e5 e6
    have HSv : Hid (Seven w4 g0 g1 g2 g3 g4 g5 g6 w.heap.size F) := ⟨k0, k1, k2, k3, k4, k5, k6⟩
    clear O0 O1 O2 O3 O4 O5 O6 k0 k1 k2 k3 k4 k5 k6 HTOT h0
    go_wp2_with fail
    go_loopw [14] (fun i wr => ∃ k m : Nat, k ≤ F.length ∧ i = .int .i64 k ∧ Hid (wr = w4.drewN m)) (fun i _ => F.length - (intOf i).toNat)
    case atStart => exact ⟨0, 0, Nat.zero_le _, rfl, rfl⟩
    case round =>
      obtain ⟨k, m, hk, rfl, HW⟩ := hrel
      by_cases hlt : k < F.length
      · obtain ⟨⟨a, bb, v, r⟩, hFk⟩ : ∃ t, F[k]? = some t := ⟨F[k], List.getElem?_eq_getElem hlt⟩
        obtain ⟨l1, l2, l3, l4⟩ := HGD.out _ (List.mem_of_getElem? hFk)
        rw [HN.out] at l4
        simp only at l1 l2 l3 l4
        have j0 : wr.cell? ⟨g0, k, none⟩ = some (.slice (some ⟨w.heap.size, a, none⟩) (bb - a) (bb - a)) := by rw [HW.out]; exact HSv.out.k0 k _ (by simp [nameV, hFk])
        have j1 : wr.cell? ⟨g1, k, none⟩ = some (.slice (some ⟨w.heap.size, v, none⟩) (r - v) (r - v)) := by rw [HW.out]; exact HSv.out.k1 k _ (by simp [valV, hFk])
        have j2 : wr.cell? ⟨g2, k, none⟩ = some (.slice (some ⟨w.heap.size, a, none⟩) (r - a) (r - a)) := by rw [HW.out]; exact HSv.out.k2 k _ (by simp [textV, hFk])
        have j3 : wr.cell? ⟨g3, k, none⟩ = some (.int .i64 (a : Int)) := by rw [HW.out]; exact HSv.out.k3 k _ (by simp [c1, hFk])
        have j4 : wr.cell? ⟨g4, k, none⟩ = some (.int .i64 (bb : Int)) := by rw [HW.out]; exact HSv.out.k4 k _ (by simp [c2, hFk])
        have j5 : wr.cell? ⟨g5, k, none⟩ = some (.int .i64 (v : Int)) := by rw [HW.out]; exact HSv.out.k5 k _ (by simp [c3, hFk])
        have j6 : wr.cell? ⟨g6, k, none⟩ = some (.int .i64 (r : Int)) := by rw [HW.out]; exact HSv.out.k6 k _ (by simp [c4, hFk])
        have i1 : (a : Int) ≤ (bb : Int) := by omega
        have i2 : (bb : Int) ≤ (n : Int) := by omega
        have i3 : (v : Int) ≤ (r : Int) := by omega
        have i4 : (r : Int) ≤ (n : Int) := by omega
        have i5 : (a : Int) ≤ (r : Int) := by omega
        have i6 : (k : Int) < (F.length : Int) := by omega
        clear hFk
        go_wp2_with fail
        go_quiet ((go_at_call 7; exact eq_in HW.out HT4.out HN.out hle _ _ _ _ _ (by omega)))
        go_wp2_with fail
        obtain ⟨X, hX⟩ : ∃ X, X = wr.drewN nq := ⟨_, rfl⟩
        have HX : Hid (X = w4.drewN (m + nq)) := by have h1 := HW.out; show X = _; rw [hX, h1]; exact drewN_more w4 m nq
        have d1 : X.cell? ⟨g1, k, none⟩ = some (.slice (some ⟨w.heap.size, v, none⟩) (r - v) (r - v)) := by rw [hX]; exact j1
        have d2 : X.cell? ⟨g2, k, none⟩ = some (.slice (some ⟨w.heap.size, a, none⟩) (r - a) (r - a)) := by rw [hX]; exact j2
        have d3 : X.cell? ⟨g3, k, none⟩ = some (.int .i64 (a : Int)) := by rw [hX]; exact j3
        have d5 : X.cell? ⟨g5, k, none⟩ = some (.int .i64 (v : Int)) := by rw [hX]; exact j5
        have d6 : X.cell? ⟨g6, k, none⟩ = some (.int .i64 (r : Int)) := by rw [hX]; exact j6
        rw [← hX]
        clear hX j0 j1 j2 j3 j4 j5 j6 HW
        generalize m + nq = m1 at HX
        go_quiet ((go_at_call 7; exact eq_in HX.out HT4.out HN.out hle _ _ _ _ _ (by omega)))
        go_wp2_with fail
        obtain ⟨Y, hY⟩ : ∃ Y, Y = X.drewN nq := ⟨_, rfl⟩
        have HY : Hid (Y = w4.drewN (m1 + nq)) := by have h1 := HX.out; show Y = _; rw [hY, h1]; exact drewN_more w4 m1 nq
        have t2 : Y.cell? ⟨g2, k, none⟩ = some (.slice (some ⟨w.heap.size, a, none⟩) (r - a) (r - a)) := by rw [hY]; exact d2
        have t3 : Y.cell? ⟨g3, k, none⟩ = some (.int .i64 (a : Int)) := by rw [hY]; exact d3
        have t6 : Y.cell? ⟨g6, k, none⟩ = some (.int .i64 (r : Int)) := by rw [hY]; exact d6
        rw [← hY]
        clear hY d1 d2 d3 d5 d6 HX
        generalize m1 + nq = m2 at HY
        go_quiet ((go_at_call 7; exact eq_in HY.out HT4.out HN.out hle _ _ _ _ _ (by omega)))
        go_wp2_with fail
        go_roundw
        case rel => exact ⟨k + 1, m2 + nq, by omega, by go_num, by have := HY.out; subst this; exact drewN_more w4 m2 nq⟩
        case measure => simp [intOf]; omega
      · go_wp2
        go_ret
        exact ⟨rfl, by rw [HW.out]; exact below_draws HB4.out m⟩
end Go.Proofs.Qxb6608652aDoor
