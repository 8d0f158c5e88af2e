import Derived.Test.Qxb6605204aSplit2
namespace Go.Proofs.Qxb6605204a
set_option linter.unusedVariables false
set_option linter.unusedSimpArgs false
open Go.ChangeShapes Go.WideShapes Go.ChangeAt Go.RowKit

set_option maxHeartbeats 400000 in
theorem bytes8_yes (p : Option Addr) (n c : Nat) (w : World) (hn : n ≤ 1048576) : Calls Try.prog 8 #[.slice p n c] w fun e w' => e = .returned (.bool true) ∧ w' = w := by
  go_enter Try.func8, Try.ntmps8
  go_wp2
  go_ret
  exact ⟨rfl, rfl⟩

set_option maxHeartbeats 400000 in
theorem bytes8_no (p : Option Addr) (n c : Nat) (w : World) (hn : 1048576 < n) : Calls Try.prog 8 #[.slice p n c] w fun e w' => e = .returned (.bool false) ∧ w' = w := by
  go_enter Try.func8, Try.ntmps8
  go_wp2
  go_ret
  exact ⟨rfl, rfl⟩

set_option maxHeartbeats 400000 in
theorem sexact_big (p : Option Addr) (n c : Nat) (w : World) (hn : 1048576 < n) : Calls Try.prog 3 #[.slice p n c] w fun e w' => e = .returned (.bool true) ∧ w' = w := by
  go_enter Try.func3, Try.ntmps3
  go_wp2_with (go_at_call 8; refine (bytes8_no _ _ _ _ hn).mono ?_; rintro e w' ⟨rfl, rfl⟩)
  go_ret
  exact ⟨rfl, rfl⟩

/-- What the law's tail asks of Split's answer, told in letters. -/
structure Tail (w2 : World) (b n m k r : Nat) (q v : Option Addr) (f : Nat → Int) : Prop where
  km : k ≤ m
  mn : m ≤ n
  kr : k < m → r + k + 1 = m
  kr0 : k = m → r = 0
  line : ∀ i, i < n → w2.cell? ⟨b, i, none⟩ = some (.int .u8 (f i))
  tab : ∀ i, i < k → (f i == 9) = false
  at9 : k < m → (f k == 9) = true
  val : 0 < r → ∃ b' o', v = some ⟨b', o', none⟩ ∧ b' < w2.heap.size ∧ ∀ i, i < r → w2.cell? ⟨b', o' + i, none⟩ = some (.int .u8 (f (k + 1 + i)))

theorem tail_of {w w2 : World} {b n m : Nat} {xs : List Int} {v : Option Addr} (hx : xs.length = n) (hm : m ≤ n)
    (hc : ∀ i, i < n → w2.cell? ⟨b, i, none⟩ = some (.int .u8 (xs.getD i 0)))
    (hv : Rd w2 v ((xs.take m).length - (tb (xs.take m) + 1)) ((xs.take m).drop (tb (xs.take m) + 1))) :
    Tail w2 b n m (tb (xs.take m)) ((xs.take m).length - (tb (xs.take m) + 1)) (some ⟨b, 0, none⟩) v (fun i => xs.getD i 0) := by
  have hl : (xs.take m).length = m := by simp; omega
  have h1 := tb_le (xs.take m)
  have h2 := tb_before (xs.take m)
  have h3 := tb_at (xs.take m)
  rw [hl] at h1 h3 hv ⊢
  have hg : ∀ i, i < m → (xs.take m).getD i 0 = xs.getD i 0 := fun i hi => getD_take hi
  generalize tb (xs.take m) = k at *
  refine ⟨h1, hm, fun h => by omega, fun h => by omega, hc, fun i hi => ?_, fun hk => ?_, fun hr => ?_⟩
  · have := h2 i hi; rw [hg i (by omega)] at this; simpa using this
  · have := h3 hk; rw [hg k hk] at this; simpa using this
  · obtain ⟨b', o', e1, e2, e3⟩ := hv.spot hr
    refine ⟨b', o', e1, e2, fun i hi => ?_⟩
    rw [e3 i hi, getD_drop, hg _ (by omega)]

set_option maxHeartbeats 1000000 in
set_option maxRecDepth 100000 in
theorem sexact_zero (p : Option Addr) (c : Nat) (w : World) (h : Rd w p 0 []) (hp : p = none → c = 0) :
    Calls Try.prog 3 #[.slice p 0 c] w fun e w' => e = .returned (.bool true) ∧ Below w.heap.size w w' := by
  have hcopy := fun w h => copy_any p 0 c [] w h (fun e => ⟨rfl, hp e⟩) (by omega)
  clear hp
  go_enter Try.func3, Try.ntmps3
  go_wp2_with (go_at_call 8; refine (bytes8_yes _ _ _ _ (by omega)).mono ?_; rintro e w' ⟨rfl, hw⟩; have hw2 := hw.symm; subst hw2; clear hw)
  refine (hcopy _ h).mono ?_
  rintro e w1 ⟨q, rfl, hown, hb1⟩
  have hS := split_own q 0 [] w1 h.len h.rng (by omega) hown
  clear h hcopy
  go_wp2_with fail
  refine hS.mono ?_
  rintro e w2 ⟨v, vc, rfl, hk, hv, hb2⟩
  have e1 : tb (List.take (tm []) []) = 0 := by simp [tb]
  have e2 : (List.take (tm []) ([] : List Int)).length - (0 + 1) = 0 := by simp
  rw [e1, e2]
  go_wp2_with fail
  refine wp_loop_rounds 1 ?_
  rw [rounds_succ]
  go_wp2
  go_ret
  exact ⟨rfl, hb1.trans (hb2.mono hb1.size)⟩

set_option maxHeartbeats 2000000 in
set_option maxRecDepth 100000 in
theorem sexact_lf (p : Option Addr) (n c m : Nat) (xs : List Int) (w : World) (h : Rd w p n xs) (hp : p = none → n = 0 ∧ c = 0) (hn1 : 0 < n) (hn : n ≤ 1048576) (hmn : m ≤ n) (hm2 : n ≤ m + 1) (hm3 : m < n) (htm : Hid (tm xs = m)) (h10 : Hid ((xs.getD (n - 1) 0 == 10) = true)) :
    Calls Try.prog 3 #[.slice p n c] w fun e w' => e = .returned (.bool true) ∧ Below w.heap.size w w' := by
  go_enter Try.func3, Try.ntmps3
  go_wp2_with (go_at_call 8; refine (bytes8_yes _ _ _ _ (by omega)).mono ?_; rintro e w' ⟨rfl, hw⟩; have hw2 := hw.symm; subst hw2; clear hw)
  refine (copy_any p n c xs _ h hp (by omega)).mono ?_
  rintro e w1 ⟨q, rfl, hown, hb1⟩
  have hS := split_own q n xs w1 h.len h.rng (by omega) hown
  rw [htm.out] at hS
  clear hp
  rcases hown with ⟨_, hn0, _⟩ | ⟨b, hq, hbB, hblt, hc⟩
  · omega
  · subst hq
    have hcn : w1.cell? ⟨b, n - 1, none⟩ = some (.int .u8 (xs.getD (n - 1) 0)) := hc (n - 1) (by omega)
    have h10b := h10.out
    have hcc : ∀ {w2 : World}, Below w1.heap.size w1 w2 → ∀ i, i < n → w2.cell? ⟨b, i, none⟩ = some (.int .u8 (xs.getD i 0)) := fun hb i hi => by rw [hb.cell (p := ⟨b, i, none⟩) hblt]; exact hc i hi
    have HCC : Hid _ := @hcc
    have HLEN : Hid (xs.length = n) := h.len
    clear hc h10 hcc h htm
    generalize xs.getD (n - 1) 0 = z at *
    go_wp2_with fail
    refine hS.mono ?_
    rintro e w2 ⟨v, vc, rfl, hk, hv, hb2⟩
    obtain ⟨f, T⟩ : ∃ f, Tail w2 b n m (tb (xs.take m)) ((xs.take m).length - (tb (xs.take m) + 1)) (some ⟨b, 0, none⟩) v f := ⟨_, tail_of (w := w1) (b := b) (m := m) HLEN.out (by omega) (HCC.out hb2) hv⟩
    have HB : Hid (Below w.heap.size w w2) := hb1.trans (hb2.mono hb1.size)
    clear hk hv hS HCC HLEN h10b hcn hb1 hb2 hbB
    generalize (xs.take m).length - (tb (xs.take m) + 1) = r at *
    generalize tb (xs.take m) = k at *
    have km := T.km
    go_wp2_with fail
    go_loopw [7] (fun i wr => ∃ j : Nat, j ≤ k ∧ i = .int .i64 j ∧ Below w2.heap.size w2 wr) (fun i _ => k - (intOf i).toNat)
    case atStart => exact ⟨0, Nat.zero_le _, rfl, Below.refl _ _⟩
    case round =>
      obtain ⟨j, hj, rfl, hbel⟩ := hrel
      have hblt2 : b < w2.heap.size := cell_lt (T.line 0 (by omega))
      by_cases hlt : j < k
      · have hcj : wr.cell? ⟨b, j, none⟩ = some (.int .u8 (f j)) := by rw [hbel.cell (p := ⟨b, j, none⟩) hblt2]; exact T.line j (by omega)
        have h9 := T.tab j hlt
        have hne : (f j != f j) = false := by simp
        generalize f j = y at *
        go_wp2_with fail
        go_quiet (fail)
        go_wp2
        go_roundw
        case rel => exact ⟨j + 1, by omega, by go_num, below_draws hbel _⟩
        case measure => simp [intOf]; omega
      · obtain rfl : j = k := by omega
        by_cases hkm : j < m
        · have hkr := T.kr hkm
          have hcj : wr.cell? ⟨b, j, none⟩ = some (.int .u8 (f j)) := by rw [hbel.cell (p := ⟨b, j, none⟩) hblt2]; exact T.line j (by omega)
          have h9 := T.at9 hkm
          have hne : (f j != 9) = false := by simpa using h9
          have hlv : ((r : Int) != ((n : Int) - 1) - (j : Int) - 1) = false := by simp; omega
          have hkn : ((j : Int) == ((n : Int) - 1)) = false := by simp; omega
          have HKR : Hid (r + j + 1 = m) := hkr
          have hrb : r ≤ 1048576 := by omega
          clear hkr h9
          generalize f j = y at *
          go_wp2_with fail
          go_loopw [8] (fun i ws => ∃ t : Nat, t ≤ r ∧ i = .int .i64 t ∧ Below w2.heap.size w2 ws) (fun i _ => r - (intOf i).toNat)
          case atStart => exact ⟨0, Nat.zero_le _, rfl, hbel⟩
          case round =>
            clear hbel hcj hne hlv
            obtain ⟨t, ht, rfl, hbel⟩ := hrel
            by_cases hltt : t < r
            · obtain ⟨b', o', rfl, hb', hcv⟩ := T.val (by omega)
              have hc1 : wr.cell? ⟨b', o' + t, none⟩ = some (.int .u8 (f (j + 1 + t))) := by rw [hbel.cell (p := ⟨b', o' + t, none⟩) hb']; exact hcv t hltt
              have hc2 : wr.cell? ⟨b, j + 1 + t, none⟩ = some (.int .u8 (f (j + 1 + t))) := by rw [hbel.cell (p := ⟨b, j + 1 + t, none⟩) hblt2]; exact T.line _ (by have := HKR.out; omega)
              have hne : (f (j + 1 + t) != f (j + 1 + t)) = false := by simp
              have hin : (j : Int) + 1 + (t : Int) < (n : Int) := by have := HKR.out; omega
              clear hcv T
              generalize f (j + 1 + t) = u at *
              go_wp2_with fail
              go_quiet (fail)
              go_wp2
              go_roundw
              case rel => exact ⟨t + 1, by omega, by go_num, below_draws hbel _⟩
              case measure => simp [intOf]; omega
            · obtain rfl : t = r := by omega
              go_wp2
              go_ret
              exact ⟨rfl, HB.out.trans (hbel.mono HB.out.size)⟩
        · have hjm : j = m := by omega
          have hr0 := T.kr0 hjm
          subst hr0
          have hkn : ((j : Int) == ((n : Int) - 1)) = true := by simp; omega
          clear hjm
          go_wp2
          go_ret
          exact ⟨rfl, HB.out.trans (hbel.mono HB.out.size)⟩

set_option maxHeartbeats 2000000 in
set_option maxRecDepth 100000 in
theorem sexact_nolf (p : Option Addr) (n c m : Nat) (xs : List Int) (w : World) (h : Rd w p n xs) (hp : p = none → n = 0 ∧ c = 0) (hn1 : 0 < n) (hn : n ≤ 1048576) (hmn : m ≤ n) (hm2 : n ≤ m) (htm : Hid (tm xs = m)) (h10 : Hid ((xs.getD (n - 1) 0 == 10) = false)) :
    Calls Try.prog 3 #[.slice p n c] w fun e w' => e = .returned (.bool true) ∧ Below w.heap.size w w' := by
  go_enter Try.func3, Try.ntmps3
  go_wp2_with (go_at_call 8; refine (bytes8_yes _ _ _ _ (by omega)).mono ?_; rintro e w' ⟨rfl, hw⟩; have hw2 := hw.symm; subst hw2; clear hw)
  refine (copy_any p n c xs _ h hp (by omega)).mono ?_
  rintro e w1 ⟨q, rfl, hown, hb1⟩
  have hS := split_own q n xs w1 h.len h.rng (by omega) hown
  rw [htm.out] at hS
  clear hp
  rcases hown with ⟨_, hn0, _⟩ | ⟨b, hq, hbB, hblt, hc⟩
  · omega
  · subst hq
    have hcn : w1.cell? ⟨b, n - 1, none⟩ = some (.int .u8 (xs.getD (n - 1) 0)) := hc (n - 1) (by omega)
    have h10b := h10.out
    have hcc : ∀ {w2 : World}, Below w1.heap.size w1 w2 → ∀ i, i < n → w2.cell? ⟨b, i, none⟩ = some (.int .u8 (xs.getD i 0)) := fun hb i hi => by rw [hb.cell (p := ⟨b, i, none⟩) hblt]; exact hc i hi
    have HCC : Hid _ := @hcc
    have HLEN : Hid (xs.length = n) := h.len
    clear hc h10 hcc h htm
    generalize xs.getD (n - 1) 0 = z at *
    go_wp2_with fail
    refine hS.mono ?_
    rintro e w2 ⟨v, vc, rfl, hk, hv, hb2⟩
    obtain ⟨f, T⟩ : ∃ f, Tail w2 b n m (tb (xs.take m)) ((xs.take m).length - (tb (xs.take m) + 1)) (some ⟨b, 0, none⟩) v f := ⟨_, tail_of (w := w1) (b := b) (m := m) HLEN.out (by omega) (HCC.out hb2) hv⟩
    have HB : Hid (Below w.heap.size w w2) := hb1.trans (hb2.mono hb1.size)
    clear hk hv hS HCC HLEN h10b hcn hb1 hb2 hbB
    generalize (xs.take m).length - (tb (xs.take m) + 1) = r at *
    generalize tb (xs.take m) = k at *
    have km := T.km
    go_wp2_with fail
    go_loopw [7] (fun i wr => ∃ j : Nat, j ≤ k ∧ i = .int .i64 j ∧ Below w2.heap.size w2 wr) (fun i _ => k - (intOf i).toNat)
    case atStart => exact ⟨0, Nat.zero_le _, rfl, Below.refl _ _⟩
    case round =>
      obtain ⟨j, hj, rfl, hbel⟩ := hrel
      have hblt2 : b < w2.heap.size := cell_lt (T.line 0 (by omega))
      by_cases hlt : j < k
      · have hcj : wr.cell? ⟨b, j, none⟩ = some (.int .u8 (f j)) := by rw [hbel.cell (p := ⟨b, j, none⟩) hblt2]; exact T.line j (by omega)
        have h9 := T.tab j hlt
        have hne : (f j != f j) = false := by simp
        generalize f j = y at *
        go_wp2_with fail
        go_quiet (fail)
        go_wp2
        go_roundw
        case rel => exact ⟨j + 1, by omega, by go_num, below_draws hbel _⟩
        case measure => simp [intOf]; omega
      · obtain rfl : j = k := by omega
        by_cases hkm : j < m
        · have hkr := T.kr hkm
          have hcj : wr.cell? ⟨b, j, none⟩ = some (.int .u8 (f j)) := by rw [hbel.cell (p := ⟨b, j, none⟩) hblt2]; exact T.line j (by omega)
          have h9 := T.at9 hkm
          have hne : (f j != 9) = false := by simpa using h9
          have hlv : ((r : Int) != (n : Int) - (j : Int) - 1) = false := by simp; omega
          have hkn : ((j : Int) == (n : Int)) = false := by simp; omega
          have HKR : Hid (r + j + 1 = m) := hkr
          have hrb : r ≤ 1048576 := by omega
          clear hkr h9
          generalize f j = y at *
          go_wp2_with fail
          go_loopw [8] (fun i ws => ∃ t : Nat, t ≤ r ∧ i = .int .i64 t ∧ Below w2.heap.size w2 ws) (fun i _ => r - (intOf i).toNat)
          case atStart => exact ⟨0, Nat.zero_le _, rfl, hbel⟩
          case round =>
            clear hbel hcj hne hlv
            obtain ⟨t, ht, rfl, hbel⟩ := hrel
            by_cases hltt : t < r
            · obtain ⟨b', o', rfl, hb', hcv⟩ := T.val (by omega)
              have hc1 : wr.cell? ⟨b', o' + t, none⟩ = some (.int .u8 (f (j + 1 + t))) := by rw [hbel.cell (p := ⟨b', o' + t, none⟩) hb']; exact hcv t hltt
              have hc2 : wr.cell? ⟨b, j + 1 + t, none⟩ = some (.int .u8 (f (j + 1 + t))) := by rw [hbel.cell (p := ⟨b, j + 1 + t, none⟩) hblt2]; exact T.line _ (by have := HKR.out; omega)
              have hne : (f (j + 1 + t) != f (j + 1 + t)) = false := by simp
              have hin : (j : Int) + 1 + (t : Int) < (n : Int) := by have := HKR.out; omega
              clear hcv T
              generalize f (j + 1 + t) = u at *
              go_wp2_with fail
              go_quiet (fail)
              go_wp2
              go_roundw
              case rel => exact ⟨t + 1, by omega, by go_num, below_draws hbel _⟩
              case measure => simp [intOf]; omega
            · obtain rfl : t = r := by omega
              go_wp2
              go_ret
              exact ⟨rfl, HB.out.trans (hbel.mono HB.out.size)⟩
        · have hjm : j = m := by omega
          have hr0 := T.kr0 hjm
          subst hr0
          have hkn : ((j : Int) == (n : Int)) = true := by simp; omega
          clear hjm
          go_wp2
          go_ret
          exact ⟨rfl, HB.out.trans (hbel.mono HB.out.size)⟩

theorem sexact_small (p : Option Addr) (n c : Nat) (xs : List Int) (w : World) (h : Rd w p n xs) (hp : p = none → n = 0 ∧ c = 0) (hn : n ≤ 1048576) :
    Calls Try.prog 3 #[.slice p n c] w fun e w' => e = .returned (.bool true) ∧ Below w.heap.size w w' := by
  cases n with
  | zero =>
    have hx0 : xs = [] := List.eq_nil_of_length_eq_zero h.len
    subst hx0
    exact sexact_zero p c w h (fun e => (hp e).2)
  | succ n =>
    by_cases h10 : xs.getD n 0 = 10
    · exact sexact_lf p (n + 1) c n xs w h hp (by omega) hn (by omega) (by omega) (by omega) (tm_yes h.len h10) (show (xs.getD n 0 == 10) = true by simpa using h10)
    · exact sexact_nolf p (n + 1) c (n + 1) xs w h hp (by omega) hn (by omega) (by omega) (tm_no h.len h10) (show (xs.getD n 0 == 10) = false by simpa using h10)

end Go.Proofs.Qxb6605204a
