import Derived.Test.Qxb6605204aCopy
import Derived.Test.Qxb6605204aKeyLen
namespace Go.Proofs.Qxb6605204a
set_option linter.unusedVariables false
set_option linter.unusedSimpArgs false
open Go.ChangeShapes Go.WideShapes Go.ChangeAt Go.RowKit

theorem keylen_own {B : Nat} (q : Option Addr) (n : Nat) (xs : List Int) (w : World) (hx : xs.length = n) (hr : ∀ x ∈ xs, 0 ≤ x ∧ x < 256) (hn : n ≤ 9223372036854775807) (h : Own B w q n xs) :
    Calls Try.prog 14 #[.slice q n n] w fun e w' => e = .returned (.tuple #[.int .i64 (kl xs : Int), .bool (decide (kl xs < n))]) ∧ w' = w := by
  rcases h with ⟨rfl, rfl, rfl⟩ | ⟨b, rfl, _, _, hc⟩
  · exact keylen_nil w
  · exact keylen_at b 0 n n xs w hx hr (Nat.le_refl _) hn (fun i hi => by rw [Nat.zero_add]; exact hc i hi)

set_option maxHeartbeats 400000 in
theorem bytes15_yes (p q : Option Addr) (n c m d : Nat) (w : World) (hn : n + m ≤ 1048576) : Calls Try.prog 15 #[.slice p n c, .slice q m d] w fun e w' => e = .returned (.bool true) ∧ w' = w := by
  go_enter Try.func15, Try.ntmps15
  go_wp2
  go_ret
  exact ⟨rfl, rfl⟩

set_option maxHeartbeats 400000 in
theorem bytes15_any (p q : Option Addr) (n c m d : Nat) (w : World) (hn : n ≤ 9223372036854775807) (hm : m ≤ 9223372036854775807) : Calls Try.prog 15 #[.slice p n c, .slice q m d] w fun e w' => e = .returned (.bool (decide (n + m ≤ 1048576))) ∧ w' = w := by
  by_cases h : n + m ≤ 1048576
  · refine (bytes15_yes p q n c m d w h).mono ?_
    rintro e w' ⟨rfl, rfl⟩
    exact ⟨by simp [h], rfl⟩
  · have hd : decide (n + m ≤ 1048576) = false := by simp; omega
    rw [hd]
    clear hd
    by_cases h1 : n ≤ 1048576
    · by_cases h2 : m ≤ 1048576
      · go_enter Try.func15, Try.ntmps15
        go_wp2
        go_ret
        exact ⟨rfl, rfl⟩
      · go_enter Try.func15, Try.ntmps15
        go_wp2
        go_ret
        exact ⟨rfl, rfl⟩
    · go_enter Try.func15, Try.ntmps15
      go_wp2
      go_ret
      exact ⟨rfl, rfl⟩

theorem half_init (w : World) (n : Nat) (xs : List Int) : (w.alloc (.cells (madeCells #[.int .u8 0] n) 5)).rowIs w.heap.size 5 n (half xs 0) :=
  (World.rowIs_made w (.int .u8 0) n 5).congr (fun i _ => by simp [half])

theorem getD_left {xs ys : List Int} {i : Nat} (h : i < xs.length) : (xs ++ ys).getD i 0 = xs.getD i 0 := by
  simp [List.getD, List.getElem?_append_left h]
theorem getD_right {xs ys : List Int} {i : Nat} : (xs ++ ys).getD (xs.length + i) 0 = ys.getD i 0 := by
  simp [List.getD, List.getElem?_append_right]

set_option maxHeartbeats 400000 in
/-- Out of the bound: true at once. -/
theorem chunk_big (p q : Option Addr) (n c m d : Nat) (w : World) (hn : n ≤ 9223372036854775807) (hm : m ≤ 9223372036854775807) (hb : ¬ (n ≤ 524288 ∧ m ≤ 524288)) : Calls Try.prog 6 #[.slice p n c, .slice q m d] w fun e w' => e = .returned (.bool true) ∧ w' = w := by
  have hby := fun w => bytes15_any p q n c m d w hn hm
  by_cases h : n + m ≤ 1048576
  · have hd : decide (n + m ≤ 1048576) = true := by simp [h]
    rw [hd] at hby
    clear hd
    by_cases h1 : n ≤ 524288
    · have h2 : 524288 < m := by omega
      clear hb
      go_enter Try.func6, Try.ntmps6
      go_wp2_with (go_at_call 15; refine (hby _).mono ?_; rintro e w' ⟨rfl, rfl⟩)
      go_ret
      exact ⟨rfl, rfl⟩
    · clear hb
      go_enter Try.func6, Try.ntmps6
      go_wp2_with (go_at_call 15; refine (hby _).mono ?_; rintro e w' ⟨rfl, rfl⟩)
      go_ret
      exact ⟨rfl, rfl⟩
  · have hd : decide (n + m ≤ 1048576) = false := by simp; omega
    rw [hd] at hby
    clear hd hb
    go_enter Try.func6, Try.ntmps6
    go_wp2_with (go_at_call 15; refine (hby _).mono ?_; rintro e w' ⟨rfl, rfl⟩)
    go_ret
    exact ⟨rfl, rfl⟩

set_option maxHeartbeats 2000000 in
theorem chunk_small (p q : Option Addr) (n c m d : Nat) (xs ys : List Int) (w : World) (h : Rd w p n xs) (hp : p = none → n = 0 ∧ c = 0) (g : Rd w q m ys) (hq : q = none → m = 0 ∧ d = 0) (hn : n ≤ 524288) (hm : m ≤ 524288) :
    Calls Try.prog 6 #[.slice p n c, .slice q m d] w fun e w' => e = .returned (.bool true) ∧ Below w.heap.size w w' := by
  have hmk := fun w => run_make_row' (P := Try.prog) 22 5 (.int .u8 0) 1 Try.underlying22 Try.info5 rfl .i64 .i64 (n + m) (by omega) (by omega) w
  have ec : ((n + m : Nat) : Int) = (n : Int) + (m : Int) := by omega
  rw [ec] at hmk
  clear ec
  have hlx : Hid (xs.length = n) := h.len
  have hly : Hid (ys.length = m) := g.len
  go_enter Try.func6, Try.ntmps6
  go_wp2_with (go_at_call 15; refine (bytes15_yes _ _ _ _ _ _ _ (by omega)).mono ?_; rintro e w' ⟨rfl, hw⟩; have hw2 := hw.symm; subst hw2; clear hw)
  refine (copy_any p n c xs _ h hp (by omega)).mono ?_
  rintro e w1 ⟨qa, rfl, ha, hb1⟩
  go_wp2_with fail
  refine (copy_any q m d ys _ (g.mono hb1) hq (by omega)).mono ?_
  rintro e w2 ⟨qc, rfl, hcc, hb2⟩
  have ha2 := ha.mono hb2 (Nat.le_refl _)
  go_wp2_with fail
  go_loopw [6] (fun i wr => ∃ k : Nat, k ≤ n ∧ i = .int .i64 k ∧ wr.rowIs w2.heap.size 5 (n + m) (half (xs ++ ys) k) ∧ Below w2.heap.size w2 wr) (fun i _ => n - (intOf i).toNat)
  case atStart => exact ⟨0, Nat.zero_le _, rfl, half_init w2 (n + m) (xs ++ ys), (Below.refl _ _).alloc (Nat.le_refl _) _⟩
  case round =>
    obtain ⟨k, hk, rfl, hrow, hbel⟩ := hrel
    by_cases hlt : k < n
    · have ha3 := ha2.mono hbel (Nat.le_refl _)
      rcases ha3 with ⟨_, h0, _⟩ | ⟨b, rfl, hbb, hbl, hcl⟩
      · omega
      · have hck := hcl k hlt
        have e1 : xs.getD k 0 = (xs ++ ys).getD k 0 := (getD_left (by have := hlx.out; omega)).symm
        rw [e1] at hck
        clear e1 hcl
        have hst := half_step hrow
        have hf := hrow.frozen k
        have hcc2 := hrow.cell (i := k) (by omega)
        have HS : Hid _ := hst
        clear hst
        generalize (xs ++ ys).getD k 0 = z at *
        go_wp2
        go_roundw
        case rel => exact ⟨k + 1, by omega, by go_num, HS.out, hbel.setCell (Nat.le_refl _) _⟩
        case measure => simp [intOf]; omega
    · obtain rfl : k = n := by omega
      go_wp2
      go_loopw [7] (fun i ws => ∃ j : Nat, j ≤ m ∧ i = .int .i64 j ∧ ws.rowIs w2.heap.size 5 (k + m) (half (xs ++ ys) (k + j)) ∧ Below w2.heap.size w2 ws) (fun i _ => m - (intOf i).toNat)
      case atStart => exact ⟨0, Nat.zero_le _, rfl, hrow, hbel⟩
      case round =>
        clear hrow hbel hlt
        obtain ⟨j, hj, rfl, hrow, hbel⟩ := hrel
        by_cases hlt : j < m
        · have hc3 := hcc.mono hbel (Nat.le_refl _)
          rcases hc3 with ⟨_, h0, _⟩ | ⟨b, rfl, hbb, hbl, hcl⟩
          · omega
          · have hck := hcl j hlt
            have e1 : ys.getD j 0 = (xs ++ ys).getD (k + j) 0 := by have := hlx.out; subst this; exact getD_right.symm
            rw [e1] at hck
            clear e1 hcl
            have hst := half_step hrow
            have hf := hrow.frozen (k + j)
            have hcc2 := hrow.cell (i := k + j) (by omega)
            have HS : Hid _ := hst
            clear hst
            generalize (xs ++ ys).getD (k + j) 0 = z at *
            go_wp2
            go_roundw
            case rel => exact ⟨j + 1, by omega, by go_num, HS.out, hbel.setCell (Nat.le_refl _) _⟩
            case measure => simp [intOf]; omega
        · obtain rfl : j = m := by omega
          have hrng : ∀ x ∈ xs ++ ys, 0 ≤ x ∧ x < 256 := fun x hx => by
            rcases List.mem_append.1 hx with hx | hx
            · exact h.rng x hx
            · exact g.rng x hx
          have K1 := keylen_at w2.heap.size 0 (k + j) (k + j) (xs ++ ys) wr (by rw [List.length_append, hlx.out, hly.out]) hrng (Nat.le_refl _) (by omega) (fun i hi => by rw [Nat.zero_add, hrow.cell hi]; simp [half, hi])
          have K2 := keylen_own qa k xs wr hlx.out h.rng (by omega) (ha2.mono hbel (Nat.le_refl _))
          have K3 := keylen_own qc j ys wr hly.out g.rng (by omega) (hcc.mono hbel (Nat.le_refl _))
          have hap := kl_append xs ys
          have l1 := kl_le xs
          have l2 := kl_le ys
          rw [hlx.out] at hap l1
          rw [hly.out] at l2
          have HB : Hid (Below w.heap.size w wr) := (hb1.trans (hb2.mono hb1.size)).trans (hbel.mono (Nat.le_trans hb1.size hb2.size))
          clear hrow hbel hrng hcc ha2 ha hb1 hb2 h g hp hq hmk hlx hly
          generalize kl (xs ++ ys) = m1 at *
          generalize kl xs = m2 at *
          generalize kl ys = m3 at *
          by_cases hk2 : m2 < k
          · rw [if_pos hk2] at hap
            subst hap
            have d1 : decide (m1 < k + j) = true := by simp; omega
            have d2 : decide (m1 < k) = true := by simp; omega
            rw [d1] at K1
            rw [d2] at K2
            clear d1 d2
            go_wp2_with fail
            refine K1.mono ?_
            rintro e w' ⟨rfl, hw⟩
            have hw2 := hw.symm
            subst hw2
            clear hw
            go_wp2_with fail
            refine K2.mono ?_
            rintro e w' ⟨rfl, hw⟩
            have hw2 := hw.symm
            subst hw2
            clear hw
            go_wp2_with fail
            go_ret
            exact ⟨rfl, HB.out⟩
          · rw [if_neg hk2] at hap
            obtain rfl : m2 = k := by omega
            have d2 : decide (m2 < m2) = false := by simp
            have d1 : decide (m1 < m2 + j) = decide (m3 < j) := by rw [hap]; simp
            rw [d1] at K1
            rw [d2] at K2
            clear d1 d2 hk2 l1
            subst hap
            generalize decide (m3 < j) = ends at *
            go_wp2_with fail
            refine K1.mono ?_
            rintro e w' ⟨rfl, hw⟩
            have hw2 := hw.symm
            subst hw2
            clear hw
            go_wp2_with fail
            refine K2.mono ?_
            rintro e w' ⟨rfl, hw⟩
            have hw2 := hw.symm
            subst hw2
            clear hw
            go_wp2_with fail
            refine K3.mono ?_
            rintro e w' ⟨rfl, hw⟩
            have hw2 := hw.symm
            subst hw2
            clear hw
            go_wp2_with fail
            go_ret
            exact ⟨by simp, HB.out⟩

end Go.Proofs.Qxb6605204a
