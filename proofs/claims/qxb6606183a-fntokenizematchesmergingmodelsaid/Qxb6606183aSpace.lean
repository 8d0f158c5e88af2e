import Derived.Test.Qxb6606183aZz
namespace Go.Proofs.Qxb6606183a
set_option linter.unusedVariables false
set_option linter.unusedSimpArgs false
open Go.ChangeShapes Go.WideShapes Go.ChangeAt Go.RowKit

set_option maxHeartbeats 400000 in
theorem bytes18_yes (a b : ByteArray) (w : World) (hn : a.size + b.size ≤ 1048576) : Calls Try.prog 18 #[.string a, .string b] w fun e w' => e = .returned (.bool true) ∧ w' = w := by
  go_enter Try.func18, Try.ntmps18
  go_wp2
  go_ret
  exact ⟨rfl, rfl⟩

set_option maxHeartbeats 400000 in
theorem bytes18_no (a b : ByteArray) (w : World) (hn : 1048576 < a.size + b.size) (ha : a.size ≤ 9223372036854775807) (hb : b.size ≤ 9223372036854775807) : Calls Try.prog 18 #[.string a, .string b] w fun e w' => e = .returned (.bool false) ∧ w' = w := by
  by_cases h1 : a.size ≤ 1048576
  · by_cases h2 : b.size ≤ 1048576
    · go_enter Try.func18, Try.ntmps18
      go_wp2
      go_ret
      exact ⟨rfl, rfl⟩
    · go_enter Try.func18, Try.ntmps18
      go_wp2
      go_ret
      exact ⟨rfl, rfl⟩
  · go_enter Try.func18, Try.ntmps18
    go_wp2
    go_ret
    exact ⟨rfl, rfl⟩

set_option maxHeartbeats 400000 in
theorem space_big (a b : ByteArray) (w : World) (hn : 1048576 < a.size + b.size) (ha : a.size ≤ 9223372036854775807) (hb : b.size ≤ 9223372036854775807) : Calls Try.prog 6 #[.string a, .string b] w fun e w' => e = .returned (.bool true) ∧ w' = w := by
  go_enter Try.func6, Try.ntmps6
  go_wp2_with (go_at_call 18; refine (bytes18_no _ _ _ hn ha hb).mono ?_; rintro e w' ⟨rfl, rfl⟩)
  go_ret
  exact ⟨rfl, rfl⟩

/-- ZZB1Tokenize, its row's length a letter. -/
theorem zz_at (s : ByteArray) (w : World) (hs : s.size ≤ 2097152) (L : List (Int × List UInt8)) (N : Nat) (hL : tok s.data.toList ++ [(0, [])] = L) (hN : L.length = N) :
    Calls Try.prog 16 #[.string s] w fun e w' => ∃ b, e = .returned (.slice (some ⟨b, 0, none⟩) N N) ∧ w.heap.size ≤ b ∧ Tks w' b L ∧ Below w.heap.size w w' := by
  have h := zz_any s w hs
  have e : (tok s.data.toList).length + 1 = N := by rw [← hN, ← hL]; simp
  rw [hL, e] at h
  exact h

theorem news1' (wr : World) (a b : Value) : ∀ j u, [a, b][j]? = some u → (wr.alloc (.cells #[a, b] 35)).cell? ((⟨wr.heap.size, 0, none⟩ : Addr).add j) = some u := by
  intro j u hj
  have h := heap_alloc_new wr (.cells #[a, b] 35)
  match j, hj with
  | 0, hj => rw [Addr.add_lit]; simp only [World.cell?]; rw [h]; simpa using hj
  | 1, hj => rw [Addr.add_lit]; simp only [World.cell?]; rw [h]; simpa using hj

theorem cells_take (M L : List (Int × List UInt8)) (k : Nat) (h : k < L.length) : cellsT (M ++ L.take (k + 1)) = cellsT (M ++ L.take k) ++ [.int .i64 L[k].1, .string ⟨L[k].2.toArray⟩] := by
  rw [List.take_succ_eq_append_getElem h, ← List.append_assoc]
  exact cellsT_snoc (M ++ L.take k) L[k].1 L[k].2

theorem space_list (a b : ByteArray) : (a ++ ⟨#[32]⟩ ++ b).data.toList = a.data.toList ++ 32 :: b.data.toList := by
  simp [ByteArray.data_append]

set_option maxHeartbeats 4000000 in
set_option maxRecDepth 100000 in
theorem space_small (a b : ByteArray) (w : World) (hn : a.size + b.size ≤ 1048576) :
    Calls Try.prog 6 #[.string a, .string b] w fun e w' => e = .returned (.bool true) ∧ Below w.heap.size w w' := by
  obtain ⟨i0, hi, hz0, hz1, hz2⟩ := info_parts Try.info35
  have hla := tok_len _ a.data.toList (Nat.le_refl _)
  have hlb := tok_len _ b.data.toList (Nat.le_refl _)
  have hsa : a.data.toList.length = a.size := Array.length_toList
  have hsb : b.data.toList.length = b.size := Array.length_toList
  rw [hsa] at hla
  rw [hsb] at hlb
  have HA := fun w => zz_at a w (by omega) _ _ rfl (show (tok a.data.toList ++ [(0, [])]).length = (tok a.data.toList).length + 1 by simp)
  have HB := fun w => zz_at b w (by omega) _ _ rfl (show (tok b.data.toList ++ [(0, [])]).length = (tok b.data.toList).length + 1 by simp)
  have hszc : (a ++ ⟨#[32]⟩ ++ b).size ≤ 2097152 := by
    rw [ByteArray.size_append, ByteArray.size_append]; show a.size + 1 + b.size ≤ _; omega
  have HC := fun w => zz_at (a ++ ⟨#[32]⟩ ++ b) w hszc (tok a.data.toList ++ (tok b.data.toList ++ [(0, [])])) ((tok a.data.toList).length + ((tok b.data.toList).length + 1)) (by rw [space_list, tok_append _ _ _ (Nat.le_refl _), List.append_assoc]) (by simp)
  clear hszc hsa hsb
  have hlA : Hid ((tok a.data.toList ++ [(0, [])]).length = (tok a.data.toList).length + 1) := by simp [Hid]
  have hlB : Hid ((tok b.data.toList ++ [(0, [])]).length = (tok b.data.toList).length + 1) := by simp [Hid]
  have htA : Hid ((tok a.data.toList ++ [(0, [])]).take (tok a.data.toList).length = tok a.data.toList) := by simp [Hid]
  have htB : Hid ((tok b.data.toList ++ [(0, [])]).take ((tok b.data.toList).length + 1) = tok b.data.toList ++ [(0, [])]) := List.take_of_length_le (by simp)
  generalize (tok a.data.toList ++ [(0, [])]) = LA at *
  generalize (tok b.data.toList ++ [(0, [])]) = LB at *
  generalize tok a.data.toList = TA at *
  generalize tok b.data.toList = TB at *
  generalize hnA : TA.length = nA at *
  generalize TB.length = nB at *
  have HNA : Hid (TA.length = nA) := hnA
  have hz1' : (((nA : Int) + 1) == 0) = false := by simp; omega
  have hz2' : (((nB : Int) + 1) == 0) = false := by simp; omega
  clear hnA
  go_enter Try.func6, Try.ntmps6
  go_wp2_with (go_at_call 18; refine (bytes18_yes _ _ _ hn).mono ?_; rintro e w' ⟨rfl, hw⟩; have hw2 := hw.symm; subst hw2; clear hw)
  refine (HA _).mono ?_
  rintro e w1 ⟨b1, rfl, hb1, hk1, hB1⟩
  go_wp2_with fail
  refine (HB _).mono ?_
  rintro e w2 ⟨b2, rfl, hb2, hk2, hB2⟩
  have hk1' := hk1.mono hB2
  have HB2 : Hid (Below w.heap.size w w2) := hB1.trans (hB2.mono hB1.size)
  clear hk1 hB1 hB2 HA HB
  go_wp2_with (at_make; refine wpList_make_own _ rfl _ _ 31 rfl w2.heap.size 35 i0 (.agg #[.int .i64 0, .string ByteArray.empty]) 2 Try.underlying31 hi hz0 hz1 _ _ _ (nA + (nB + 1)) rfl rfl (by omega) (by rw [hz2]; omega) (by unfold maxLen; omega) (Nat.le_refl _) ?_)
  intro w3 hown3 hgrow3
  have hb3 : Below w2.heap.size w2 w3 := (Below.refl _ _).grown hgrow3 (Nat.le_refl _) (fun k e => by cases e)
  clear hgrow3
  go_wp2_with fail
  go_loopw [7, 8] (fun v i wr => ∃ k : Nat, k ≤ nA ∧ i = .int .i64 k ∧ wr.ownsRow w2.heap.size 35 2 v k (cellsT (LA.take k)) ∧ Below w2.heap.size w2 wr) (fun _ i _ => nA - (intOf i).toNat)
  case atStart => exact ⟨0, Nat.zero_le _, rfl, hown3, hb3⟩
  case round =>
    clear hown3 hb3
    obtain ⟨k, hk, rfl, hown, hbel⟩ := hrel
    have hBs := hbel.size
    by_cases hlt : k < nA
    · have hkL : k < LA.length := by rw [hlA.out]; omega
      have g1 := (hk1'.mono hbel).kind k hkL
      have g2 := (hk1'.mono hbel).text k hkL
      have hs0 := cells_take [] LA k hkL
      simp only [List.nil_append] at hs0
      have HS : Hid _ := hs0
      clear hs0
      clear hk1' hk2 HC
      generalize L1e : LA[k].1 = kd at *
      generalize L2e : (⟨LA[k].2.toArray⟩ : ByteArray) = tx at *
      clear L1e L2e
      go_wp2_with (at_builtin; refine wpList_append_own _ rfl (.tmp 56) (.tmp 61) 31 rfl w2.heap.size 35 i0 (.agg #[.int .i64 0, .string ByteArray.empty]) 2 24 Try.underlying31 hi hz0 hz1 hz2 rfl (by decide) _ _ _ rfl (hown.alloc _) ⟨wr.heap.size, 0, none⟩ 1 1 [.int .i64 kd, .string tx] rfl rfl (news1' _ _ _) (one2 _ _) (by unfold maxLen; omega) (by omega) (by simp; omega) ?_)
      intro v' w4 hown' hgrow _
      rw [← HS.out] at hown'
      have hb4 : Below w2.heap.size w2 w4 := (hbel.alloc hBs _).grown hgrow (by simp; omega) (fun k e => (hown.lt k e).1)
      clear hgrow hown hbel
      go_wp2
      go_roundw
      case rel => exact ⟨k + 1, by omega, by go_num, hown', hb4⟩
      case measure => simp [intOf]; omega
    · obtain rfl : k = nA := by omega
      clear hlt
      rw [htA.out] at hown
      go_wp2_with fail
      go_loopw [7, 9] (fun v i ws => ∃ j : Nat, j ≤ nB + 1 ∧ i = .int .i64 j ∧ ws.ownsRow w2.heap.size 35 2 v (k + j) (cellsT (TA ++ LB.take j)) ∧ Below w2.heap.size w2 ws) (fun _ i _ => nB + 1 - (intOf i).toNat)
      case atStart => exact ⟨0, Nat.zero_le _, rfl, by simpa using hown, hbel⟩
      case round =>
        clear hown hbel hBs
        obtain ⟨j, hj, rfl, hown, hbel⟩ := hrel
        have hBs := hbel.size
        by_cases hlt : j < nB + 1
        · have hjL : j < LB.length := by rw [hlB.out]; exact hlt
          have g1 := (hk2.mono hbel).kind j hjL
          have g2 := (hk2.mono hbel).text j hjL
          have HS : Hid _ := cells_take TA LB j hjL
          clear hk1' hk2 HC
          generalize L1e : LB[j].1 = kd at *
          generalize L2e : (⟨LB[j].2.toArray⟩ : ByteArray) = tx at *
          clear L1e L2e
          go_wp2_with (at_builtin; refine wpList_append_own _ rfl (.tmp 69) (.tmp 74) 31 rfl w2.heap.size 35 i0 (.agg #[.int .i64 0, .string ByteArray.empty]) 2 24 Try.underlying31 hi hz0 hz1 hz2 rfl (by decide) _ _ _ rfl (hown.alloc _) ⟨wr.heap.size, 0, none⟩ 1 1 [.int .i64 kd, .string tx] rfl rfl (news1' _ _ _) (one2 _ _) (by unfold maxLen; omega) (by omega) (by simp; omega) ?_)
          intro v' w4 hown' hgrow _
          rw [← HS.out] at hown'
          have hb4 : Below w2.heap.size w2 w4 := (hbel.alloc hBs _).grown hgrow (by simp; omega) (fun k e => (hown.lt k e).1)
          clear hgrow hown hbel
          go_wp2
          go_roundw
          case rel => exact ⟨j + 1, by omega, by go_num, hown', hb4⟩
          case measure => simp [intOf]; omega
        · have hjn : j = nB + 1 := by omega
          subst hjn
          clear hlt
          rw [htB.out] at hown
          have hlen : (TA ++ LB).length = k + (nB + 1) := by rw [List.length_append, HNA.out, hlB.out]
          obtain ⟨g, cap, rfl, hg, hcap, htk⟩ := tks_of_own hlen (by omega) hown
          have HLN : Hid _ := hlen
          clear hown hk1' hk2 hlen
          go_wp2_with fail
          refine (HC _).mono ?_
          rintro e w5 ⟨b5, rfl, hb5, hk5, hB5⟩
          have HB5 : Hid (Below w.heap.size w w5) := (HB2.out.trans (hbel.mono HB2.out.size)).trans (hB5.mono (Nat.le_trans HB2.out.size hbel.size))
          have htk5 := htk.mono hB5
          clear HC htk hB5 hbel HB2
          go_wp2_with fail
          refine (teq_any b5 g (k + (nB + 1)) (k + (nB + 1)) cap (TA ++ LB) _ HLN.out (by omega) hk5 htk5 (Nat.le_refl _) hcap).mono ?_
          rintro e w6 ⟨rfl, hb6⟩
          have HB6 : Hid (Below w.heap.size w w6) := HB5.out.trans (hb6.mono HB5.out.size)
          clear hb6
          go_wp2_with fail
          go_ret
          exact ⟨rfl, HB6.out⟩

end Go.Proofs.Qxb6606183a
