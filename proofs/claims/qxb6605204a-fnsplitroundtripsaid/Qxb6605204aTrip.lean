import Derived.Test.Qxb6605204aSame
namespace Go.Proofs.Qxb6605204a
set_option linter.unusedVariables false
set_option linter.unusedSimpArgs false
open Go.ChangeShapes Go.WideShapes Go.ChangeAt Go.RowKit

theorem half_zero (w : World) (n : Nat) (xs : List Int) : (w.alloc (.cells (madeCells #[.int .u8 0] n) 5)).rowIs w.heap.size 5 n (half xs 0) :=
  (World.rowIs_made w (.int .u8 0) n 5).congr (fun i _ => by simp [half])

theorem own_of_half {w : World} {B b n : Nat} {xs : List Int} (hB : B ≤ b) (h : w.rowIs b 5 n (half xs n)) : Own B w (some ⟨b, 0, none⟩) n xs :=
  .inr ⟨b, rfl, hB, h.lt, fun i hi => by rw [h.cell hi]; simp [half, hi]⟩

theorem Own.rd {B : Nat} {w : World} {q : Option Addr} {n : Nat} {xs : List Int} (h : Own B w q n xs) (hx : xs.length = n) (hr : ∀ x ∈ xs, 0 ≤ x ∧ x < 256) : Rd w q n xs := by
  rcases h with ⟨rfl, rfl, rfl⟩ | ⟨b, rfl, hB, hlt, hc⟩
  · exact rd_zero _ _
  · exact rd_at hx hr (fun i hi => by rw [Nat.zero_add]; exact hc i hi)

theorem trip_gets {xs ys : List Int} {k m : Nat} (hx : xs.length = k) (hy : ys.length = m) :
    Hid ((xs ++ 9 :: (ys ++ [10])).length = k + m + 2) ∧ Hid (∀ i, i < k → (xs ++ 9 :: (ys ++ [10])).getD i 0 = xs.getD i 0) ∧ Hid ((xs ++ 9 :: (ys ++ [10])).getD k 0 = 9) ∧
    Hid (∀ i, i < m → (xs ++ 9 :: (ys ++ [10])).getD (k + 1 + i) 0 = ys.getD i 0) ∧ Hid ((xs ++ 9 :: (ys ++ [10])).getD (k + 1 + m) 0 = 10) := by
  subst hx hy
  refine ⟨?_, fun i hi => getD_l hi, ?_, fun i hi => ?_, ?_⟩
  · show (xs ++ 9 :: (ys ++ [10])).length = xs.length + ys.length + 2
    simp; omega
  · have := getD_r (xs := xs) (ys := 9 :: (ys ++ [10])) (i := 0)
    exact this
  · have e : xs.length + 1 + i = xs.length + (i + 1) := by omega
    rw [e, getD_r, List.getD_cons_succ, getD_l hi]
  · show (xs ++ 9 :: (ys ++ [10])).getD (xs.length + 1 + ys.length) 0 = 10
    have e : xs.length + 1 + ys.length = xs.length + (ys.length + 1) := by omega
    rw [e, getD_r, List.getD_cons_succ]
    exact getD_r (xs := ys) (ys := [10]) (i := 0)

theorem split_trip1 (b k m : Nat) (xs ys : List Int) (w : World) (hx : xs.length = k) (hy : ys.length = m) (h9 : ∀ i, i < k → xs.getD i 0 ≠ 9) (hr1 : ∀ x ∈ xs, 0 ≤ x ∧ x < 256) (hr2 : ∀ x ∈ ys, 0 ≤ x ∧ x < 256) (hn : k + m + 2 ≤ 4611686018427387904)
    (h : w.rowIs b 5 (k + m + 2) (half (xs ++ 9 :: (ys ++ [10])) (k + m + 2))) :
    Calls Try.prog 10 #[.slice (some ⟨b, 0, none⟩) (k + m + 2) (k + m + 2)] w fun e w' => ∃ v vc, e = .returned (.tuple #[.slice (some ⟨b, 0, none⟩) k (k + m + 2), .slice v m vc]) ∧ Rd w' (some ⟨b, 0, none⟩) k xs ∧ Rd w' v m ys ∧ Below w.heap.size w w' := by
  have hl : (xs ++ 9 :: (ys ++ [10])).length = k + m + 2 := (trip_gets hx hy).1
  have hr : ∀ x ∈ xs ++ 9 :: (ys ++ [10]), 0 ≤ x ∧ x < 256 := fun x hx => by
    simp only [List.mem_append, List.mem_cons, List.not_mem_nil, or_false] at hx
    rcases hx with hx | hx | hx | hx
    · exact hr1 x hx
    · omega
    · exact hr2 x hx
    · omega
  have hS := split_own (some ⟨b, 0, none⟩) (k + m + 2) _ w hl hr hn (own_of_half (Nat.zero_le _) h)
  subst hx hy
  obtain ⟨e1, e2, e3⟩ := trip_L1 (xs := xs) (ys := ys) h9
  rw [e1, e2] at hS
  refine hS.mono ?_
  rintro e w' ⟨v, vc, rfl, hk, hv, hb⟩
  rw [e3] at hk hv ⊢
  have e4 : (xs ++ 9 :: ys).length - (xs.length + 1) = ys.length := by simp; omega
  have e5 : (xs ++ 9 :: ys).drop (xs.length + 1) = ys := by
    rw [← List.drop_drop, List.drop_left]; rfl
  have e6 : (xs ++ 9 :: ys).take xs.length = xs := by simp
  rw [e4, e5] at hv
  rw [e6] at hk
  rw [e4]
  exact ⟨v, vc, rfl, hk, hv, hb⟩

theorem split_trip2 (b k : Nat) (xs : List Int) (w : World) (hx : xs.length = k) (h9 : ∀ i, i < k → xs.getD i 0 ≠ 9) (hr1 : ∀ x ∈ xs, 0 ≤ x ∧ x < 256) (hn : k + 1 ≤ 4611686018427387904)
    (h : w.rowIs b 5 (k + 1) (half (xs ++ [10]) (k + 1))) :
    Calls Try.prog 10 #[.slice (some ⟨b, 0, none⟩) (k + 1) (k + 1)] w fun e w' => ∃ v vc, e = .returned (.tuple #[.slice (some ⟨b, 0, none⟩) k (k + 1), .slice v 0 vc]) ∧ Rd w' (some ⟨b, 0, none⟩) k xs ∧ Below w.heap.size w w' := by
  have hl : (xs ++ [10]).length = k + 1 := by simp [hx]
  have hr : ∀ x ∈ xs ++ [10], 0 ≤ x ∧ x < 256 := fun x hx => by
    simp only [List.mem_append, List.mem_cons, List.not_mem_nil, or_false] at hx
    rcases hx with hx | hx
    · exact hr1 x hx
    · omega
  have hS := split_own (some ⟨b, 0, none⟩) (k + 1) _ w hl hr hn (own_of_half (Nat.zero_le _) h)
  subst hx
  obtain ⟨e1, e2, e3⟩ := trip_L2 (xs := xs) h9
  rw [e1, e2] at hS
  refine hS.mono ?_
  rintro e w' ⟨v, vc, rfl, hk, hv, hb⟩
  rw [e3] at hk ⊢
  have e4 : xs.length - (xs.length + 1) = 0 := by omega
  rw [List.take_length] at hk
  rw [e4]
  exact ⟨v, vc, rfl, hk, hb⟩

set_option maxHeartbeats 4000000 in
set_option maxRecDepth 100000 in
theorem trip_small (p q : Option Addr) (n c m d : Nat) (xs ys : List Int) (w : World) (h : Rd w p n xs) (hp : p = none → n = 0 ∧ c = 0) (g : Rd w q m ys) (hq : q = none → m = 0 ∧ d = 0) (hn : n ≤ 524288) (hm : m ≤ 524288) :
    Calls Try.prog 4 #[.slice p n c, .slice q m d] w fun e w' => e = .returned (.bool true) ∧ Below w.heap.size w w' := by
  have hmk := fun w => run_make_row' (P := Try.prog) 22 5 (.int .u8 0) 1 Try.underlying22 Try.info5 rfl .i64 .i64 (n + m + 2) (by omega) (by omega) w
  have ec : ((n + m + 2 : Nat) : Int) = (n : Int) + (m : Int) + 2 := by omega
  rw [ec] at hmk
  have hmk2 := fun w => run_make_row' (P := Try.prog) 22 5 (.int .u8 0) 1 Try.underlying22 Try.info5 rfl .i64 .i64 (n + 1) (by omega) (by omega) w
  have ec2 : ((n + 1 : Nat) : Int) = (n : Int) + 1 := by omega
  rw [ec2] at hmk2
  clear ec ec2
  have HN : Hid (n ≤ 524288) := hn
  have HM : Hid (m ≤ 524288) := hm
  have hlx : Hid (xs.length = n) := h.len
  have hly : Hid (ys.length = m) := g.len
  have HR1 : Hid _ := h.rng
  have HR2 : Hid _ := g.rng
  go_enter Try.func4, Try.ntmps4
  go_wp2_with (go_at_call 11; refine (bytes11_yes _ _ _ _ _ _ _ (by omega)).mono ?_; rintro e w' ⟨rfl, hw⟩; have hw2 := hw.symm; subst hw2; clear hw)
  go_loop [5] (fun i => ∃ k : Nat, k ≤ n ∧ i = .int .i64 k ∧ Hid (∀ i, i < k → xs.getD i 0 ≠ 9)) (fun i => n - (intOf i).toNat)
  case atStart => exact ⟨0, Nat.zero_le _, rfl, fun i hi => absurd hi (Nat.not_lt_zero _)⟩
  case round =>
    obtain ⟨k, hk, rfl, H9⟩ := hrel
    by_cases hlt : k < n
    · obtain ⟨b, o, rfl, hb, hc⟩ := h.spot (by omega)
      have hck := hc k hlt
      by_cases h9 : xs.getD k 0 = 9
      · have h9b : (xs.getD k 0 == 9) = true := by simpa using h9
        clear h9 hc h g hmk hmk2
        generalize xs.getD k 0 = z at *
        go_wp2
        go_ret
        exact ⟨rfl, Below.refl _ _⟩
      · have h9b : (xs.getD k 0 == 9) = false := by simpa using h9
        have H9' : Hid (∀ i, i < k + 1 → xs.getD i 0 ≠ 9) := fun i hi => by
          rcases Nat.lt_or_eq_of_le (Nat.le_of_lt_succ hi) with h' | h'
          · exact H9.out i h'
          · rw [h']; exact h9
        clear h9 hc h g hmk hmk2
        generalize xs.getD k 0 = z at *
        go_wp2
        go_round
        case rel => exact ⟨k + 1, by omega, by go_num, H9'⟩
        case measure => simp [intOf]; omega
    · obtain rfl : k = n := by omega
      clear hlt
      go_wp2_with fail
      refine (copy_any p k c xs _ h hp (by omega)).mono ?_
      rintro e w1 ⟨qa, rfl, ha, hb1⟩
      go_wp2_with fail
      refine (copy_any q m d ys _ (g.mono hb1) hq (by omega)).mono ?_
      rintro e w2 ⟨qc, rfl, hcc, hb2⟩
      have ha2 := ha.mono hb2 (Nat.le_refl _)
      have HB2 : Hid (Below w.heap.size w w2) := hb1.trans (hb2.mono hb1.size)
      clear ha hb1 hb2 h g hp hq
      obtain ⟨HL, hF1, hF2, hF3, hF4⟩ := trip_gets (xs := xs) (ys := ys) hlx.out hly.out
      obtain ⟨L1, hL1⟩ : ∃ L1, L1 = xs ++ 9 :: (ys ++ [10]) := ⟨_, rfl⟩
      rw [← hL1] at HL hF1 hF2 hF3 hF4
      have HL1 : Hid _ := hL1
      clear hL1
      go_wp2_with fail
      clear hmk
      go_loopw [7] (fun i wr => ∃ j : Nat, j ≤ k ∧ i = .int .i64 j ∧ wr.rowIs w2.heap.size 5 (k + m + 2) (half L1 j) ∧ Below w2.heap.size w2 wr) (fun i _ => k - (intOf i).toNat)
      case atStart => exact ⟨0, Nat.zero_le _, rfl, half_zero w2 _ L1, (Below.refl _ _).alloc (Nat.le_refl _) _⟩
      case round =>
        obtain ⟨j, hj, rfl, hrow, hbel⟩ := hrel
        by_cases hlt : j < k
        · rcases ha2.mono hbel (Nat.le_refl _) with ⟨_, h0, _⟩ | ⟨b, rfl, hbb, hbl, hcl⟩
          · omega
          · have hck := hcl j hlt
            rw [← hF1.out j hlt] at hck
            clear hcl
            have HS : Hid _ := half_step hrow
            have hf := hrow.frozen j
            have hcc2 := hrow.cell (i := j) (by omega)
            clear ha2 hcc hmk2
            generalize L1.getD j 0 = z at *
            go_wp2
            go_roundw
            case rel => exact ⟨j + 1, by omega, by go_num, HS.out, hbel.setCell (Nat.le_refl _) _⟩
            case measure => simp [intOf]; omega
        · obtain rfl : j = k := by omega
          clear hlt
          have hst := half_step hrow
          rw [hF2.out] at hst
          have HS : Hid _ := hst
          have hf := hrow.frozen j
          have hcc2 := hrow.cell (i := j) (by omega)
          clear hst
          have hbe2 := hbel.setCell (p := ⟨w2.heap.size, j, none⟩) (Nat.le_refl _) (.int .u8 9)
          go_wp2_with fail
          go_loopw [8] (fun i ws => ∃ t : Nat, t ≤ m ∧ i = .int .i64 t ∧ ws.rowIs w2.heap.size 5 (j + m + 2) (half L1 (j + 1 + t)) ∧ Below w2.heap.size w2 ws) (fun i _ => m - (intOf i).toNat)
          case atStart => exact ⟨0, Nat.zero_le _, rfl, HS.out, hbe2⟩
          case round =>
            clear hrow hbel HS hf hcc2 hbe2
            obtain ⟨t, ht, rfl, hrow, hbel⟩ := hrel
            by_cases hlt : t < m
            · rcases hcc.mono hbel (Nat.le_refl _) with ⟨_, h0, _⟩ | ⟨b, rfl, hbb, hbl, hcl⟩
              · omega
              · have hck := hcl t hlt
                rw [← hF3.out t hlt] at hck
                clear hcl
                have HS : Hid _ := half_step hrow
                have hf := hrow.frozen (j + 1 + t)
                have hcc2 := hrow.cell (i := j + 1 + t) (by omega)
                clear ha2 hcc hmk2
                generalize L1.getD (j + 1 + t) 0 = z at *
                go_wp2
                go_roundw
                case rel => exact ⟨t + 1, by omega, by go_num, HS.out, hbel.setCell (Nat.le_refl _) _⟩
                case measure => simp [intOf]; omega
            · obtain rfl : t = m := by omega
              clear hlt
              have e7 : j + 1 + t = j + t + 1 := by omega
              rw [e7] at hrow hF4
              clear e7
              have hst := half_step hrow
              rw [hF4.out] at hst
              have hf := hrow.frozen (j + t + 1)
              have hcc2 := hrow.cell (i := j + t + 1) (by omega)
              have hbe2 := hbel.setCell (p := ⟨w2.heap.size, j + t + 1, none⟩) (Nat.le_refl _) (.int .u8 10)
              rw [HL1.out] at hst
              have K1 := split_trip1 w2.heap.size j t xs ys _ hlx.out hly.out H9.out HR1.out HR2.out (by omega) hst
              clear hst
              go_wp2_with fail
              refine K1.mono ?_
              rintro e w3 ⟨v, vc, rfl, hk3, hv3, hb3⟩
              have hb23 : Below w2.heap.size w2 w3 := hbe2.trans (hb3.mono (by have := hbe2.size; simpa using this))
              have hA3 := (ha2.mono hb23 (Nat.le_refl _)).rd hlx.out HR1.out
              have hC3 := (hcc.mono hb23 (Nat.le_refl _)).rd hly.out HR2.out
              clear hb3 hbe2 hcc2 hf hrow hbel K1 hF1 hF2 hF3 hF4 HL HL1 ha2 hcc
              go_wp2_with fail
              refine (same_any (some ⟨w2.heap.size, 0, none⟩) qa j (j + t + 2) j xs _ hk3 hA3 (by omega)).mono ?_
              rintro e w4 ⟨rfl, hb4⟩
              go_wp2_with fail
              refine (same_any v qc t vc t ys _ (hv3.mono hb4) (hC3.mono hb4) (by omega)).mono ?_
              rintro e w5 ⟨rfl, hb5⟩
              have hA5 := (hA3.mono hb4).mono hb5
              have HB5 : Hid (Below w.heap.size w w5) := ((HB2.out.trans (hb23.mono HB2.out.size)).trans (hb4.mono (Nat.le_trans HB2.out.size hb23.size))).trans (hb5.mono (Nat.le_trans (Nat.le_trans HB2.out.size hb23.size) hb4.size))
              clear hb4 hb5 hb23 hk3 hv3 hA3 hC3 HB2
              have hG1 : Hid (∀ i, i < j → (xs ++ [10]).getD i 0 = xs.getD i 0) := fun i hi => getD_l (by rw [hlx.out]; exact hi)
              have hG2 : Hid ((xs ++ [10]).getD j 0 = 10) := by
                have := getD_r (xs := xs) (ys := [10]) (i := 0)
                rw [hlx.out] at this
                exact this
              obtain ⟨L2, hL2⟩ : ∃ L2, L2 = xs ++ [10] := ⟨_, rfl⟩
              rw [← hL2] at hG1 hG2
              have HL2 : Hid _ := hL2
              clear hL2
              go_wp2_with fail
              clear hmk2
              go_loopw [12] (fun i wr => ∃ s : Nat, s ≤ j ∧ i = .int .i64 s ∧ wr.rowIs w5.heap.size 5 (j + 1) (half L2 s) ∧ Below w5.heap.size w5 wr) (fun i _ => j - (intOf i).toNat)
              case atStart => exact ⟨0, Nat.zero_le _, rfl, half_zero w5 _ L2, (Below.refl _ _).alloc (Nat.le_refl _) _⟩
              case round =>
                obtain ⟨s, hs, rfl, hrow, hbel⟩ := hrel
                by_cases hlt : s < j
                · obtain ⟨b, o, rfl, hbl, hcl⟩ := (hA5.mono hbel).spot (by omega)
                  have hck := hcl s hlt
                  rw [← hG1.out s hlt] at hck
                  clear hcl
                  have HS : Hid _ := half_step hrow
                  have hf := hrow.frozen s
                  have hcc2 := hrow.cell (i := s) (by omega)
                  clear hA5
                  generalize L2.getD s 0 = z at *
                  go_wp2
                  go_roundw
                  case rel => exact ⟨s + 1, by omega, by go_num, HS.out, hbel.setCell (Nat.le_refl _) _⟩
                  case measure => simp [intOf]; omega
                · obtain rfl : s = j := by omega
                  clear hlt
                  have hst := half_step hrow
                  rw [hG2.out] at hst
                  have hf := hrow.frozen s
                  have hcc2 := hrow.cell (i := s) (by omega)
                  have hbe2 := hbel.setCell (p := ⟨w5.heap.size, s, none⟩) (Nat.le_refl _) (.int .u8 10)
                  rw [HL2.out] at hst
                  have K2 := split_trip2 w5.heap.size s xs _ hlx.out H9.out HR1.out (by omega) hst
                  clear hst
                  go_wp2_with fail
                  refine K2.mono ?_
                  rintro e w6 ⟨v2, vc2, rfl, hk6, hb6⟩
                  have hb56 : Below w5.heap.size w5 w6 := hbe2.trans (hb6.mono (by have := hbe2.size; simpa using this))
                  have hA6 := hA5.mono hb56
                  clear hb6 hbe2 hcc2 hf hrow hbel K2 hA5 hG1 hG2 HL2
                  go_wp2_with fail
                  refine (same_any (some ⟨w5.heap.size, 0, none⟩) qa s (s + 1) s xs _ hk6 hA6 (by omega)).mono ?_
                  rintro e w7 ⟨rfl, hb7⟩
                  have HB7 : Hid (Below w.heap.size w w7) := (HB5.out.trans (hb56.mono HB5.out.size)).trans (hb7.mono (Nat.le_trans HB5.out.size hb56.size))
                  clear hb7 hb56 hk6 hA6
                  go_wp2_with fail
                  go_ret
                  exact ⟨rfl, HB7.out⟩

end Go.Proofs.Qxb6605204a
