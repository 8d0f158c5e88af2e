import Derived.Test.Qxb6606183aTok
namespace Go.Proofs.Qxb6606183a
set_option linter.unusedVariables false
set_option linter.unusedSimpArgs false
open Go.ChangeShapes Go.WideShapes Go.ChangeAt Go.RowKit

theorem step_sp {l : List UInt8} {k : Nat} {T : List (Int × List UInt8)} {c : UInt8} {m : List UInt8} (hl : l.drop k = c :: m) (h : T ++ tok (l.drop k) = tok l) (hs : isSp c = true) : T ++ tok (l.drop (k + 1)) = tok l := by
  rw [← h, hl, tok_sp hs, ← List.drop_drop, hl]; rfl

theorem step_tok {l : List UInt8} {k : Nat} {T : List (Int × List UInt8)} {c : UInt8} {m : List UInt8} {kd : Int} {n : Nat} (hl : l.drop k = c :: m) (h : T ++ tok (l.drop k) = tok l) (hs : isSp c = false) (hh : hd c m = (kd, n)) :
    (T ++ [(kd, (l.drop k).take n)]) ++ tok (l.drop (k + n)) = tok l := by
  rw [← h]
  conv => rhs; rw [hl, tok_cons hs]
  rw [hh, ← List.drop_drop, hl, List.append_assoc]; rfl

theorem drop_cons {s : ByteArray} {k : Nat} (h : k < s.size) : s.data.toList.drop k = s[k] :: s.data.toList.drop (k + 1) := by
  have hl : k < s.data.toList.length := by rw [Array.length_toList]; exact h
  rw [List.drop_eq_getElem_cons hl]; rfl

theorem news2 (wr : World) (O1 : Obj) (a b : Value) : ∀ j u, [a, b][j]? = some u → ((wr.alloc O1).alloc (.cells #[a, b] 40)).cell? ((⟨wr.heap.size + 1, 0, none⟩ : Addr).add j) = some u := by
  intro j u hj
  have h := heap_alloc_new (wr.alloc O1) (.cells #[a, b] 40)
  have hs : (wr.alloc O1).heap.size = wr.heap.size + 1 := by simp
  rw [hs] at h
  match j, hj with
  | 0, hj => rw [Addr.add_lit]; simp only [World.cell?]; rw [h]; simpa using hj
  | 1, hj => rw [Addr.add_lit]; simp only [World.cell?]; rw [h]; simpa using hj
theorem one2 (k : Int) (t : ByteArray) : ∀ u ∈ [Value.int .i64 k, .string t], u.oneCell' = true := by
  intro u hu
  simp only [List.mem_cons, List.not_mem_nil, or_false] at hu
  rcases hu with rfl | rfl <;> rfl

theorem news1 (wr : World) (a b : Value) : ∀ j u, [a, b][j]? = some u → (wr.alloc (.cells #[a, b] 40)).cell? ((⟨wr.heap.size, 0, none⟩ : Addr).add j) = some u := by
  intro j u hj
  have h := heap_alloc_new wr (.cells #[a, b] 40)
  match j, hj with
  | 0, hj => rw [Addr.add_lit]; simp only [World.cell?]; rw [h]; simpa using hj
  | 1, hj => rw [Addr.add_lit]; simp only [World.cell?]; rw [h]; simpa using hj

theorem pre2 {l : List UInt8} {k : Nat} {c : UInt8} {m : List UInt8} (hl : l.drop k = c :: m) (a b : UInt8) : ((l.drop k).take 2 == [a, b]) = decide (c = a ∧ m.head? = some b) := by
  rw [hl, Bool.eq_iff_iff, beq_iff_eq, decide_eq_true_eq]
  cases m with
  | nil => simp
  | cons d m => simp

theorem tnat_ne {c : UInt8} (a : UInt8) (h : c ≠ a) : ((c.toNat : Int) == (a.toNat : Int)) = false := by
  rw [beq_eq_false_iff_ne]
  intro e
  exact h (UInt8.toNat_inj.1 (by omega))

theorem take1 {l : List UInt8} {k : Nat} {c : UInt8} {m : List UInt8} (hl : l.drop k = c :: m) : (l.drop k).take 1 = [c] := by rw [hl]; rfl

theorem head_room {s : ByteArray} {k : Nat} (h : (s.data.toList.drop (k + 1)).head? = some 61) : k + 2 ≤ s.size := by
  have := head_some h
  rw [List.length_drop, Array.length_toList] at this
  change 1 ≤ s.size - (k + 1) at this
  omega

theorem at_get {s : ByteArray} {k j : Nat} {d : UInt8} (h : (s.data.toList.drop k)[j]? = some d) : ∃ hlt : k + j < s.size, s[k + j] = d := by
  rw [List.getElem?_drop] at h
  obtain ⟨h1, h2⟩ := List.getElem?_eq_some_iff.1 h
  rw [Array.length_toList] at h1
  exact ⟨h1, h2⟩

/-- The relation at the loop's head. -/
def Rel (s : ByteArray) (w : World) (v i : Value) (wr : World) : Prop :=
  ∃ (k : Nat) (T : List (Int × List UInt8)), k ≤ s.size ∧ i = .int .i64 k ∧ T.length ≤ k ∧ Hid (T ++ tok (s.data.toList.drop k) = tok s.data.toList) ∧ wr.ownsRow w.heap.size 40 2 v T.length (cellsT T) ∧ Below w.heap.size w wr

set_option maxHeartbeats 4000000 in
set_option maxRecDepth 100000 in
theorem tok_any (s : ByteArray) (w : World) (hs : s.size ≤ 2097152) :
    Calls Try.prog 20 #[.string s] w fun e w' => ∃ v, e = .returned v ∧ w'.ownsRow w.heap.size 40 2 v ((tok s.data.toList).length + 1) (cellsT (tok s.data.toList ++ [(0, [])])) ∧ Below w.heap.size w w' := by
  obtain ⟨i0, hi, hz0, hz1, hz2⟩ := info_parts Try.info40
  go_enter Try.func20, Try.ntmps20
  go_wp2_with fail
  go_loopw [3, 4] (fun v i wr => Rel s w v i wr) (fun _ i _ => s.size - (intOf i).toNat)
  case atStart => exact ⟨0, [], Nat.zero_le _, rfl, Nat.le_refl _, by simp [Hid], World.ownsRow_nil _ _ _ _, Below.refl _ _⟩
  case round =>
    obtain ⟨k, T, hk, rfl, hTk, HT, hown, hbel⟩ := hrel
    have hBs := hbel.size
    by_cases hlt : k < s.size
    · have HL : Hid _ := drop_cons hlt
      obtain ⟨c, hc⟩ : ∃ c, s[k] = c := ⟨_, rfl⟩
      rw [hc] at HL
      by_cases hsp : isSp c = true
      · have hA := fun w => among_yes [32, 9, 10, 13, 11, 12] c w hsp
        have HT' : Hid _ := step_sp HL.out HT.out hsp
        go_wp2_with (go_at_call 24; refine (hA _).mono ?_; rintro e w' ⟨⟨i, rfl, hi0⟩, hw⟩; have hw2 := hw.symm; subst hw2; clear hw)
        go_roundw
        case rel => exact ⟨k + 1, T, by omega, by go_num, by omega, HT', hown.alloc _, hbel.alloc hBs _⟩
        case measure => simp [intOf]; omega
      · have hspf : isSp c = false := by simpa using hsp
        have hA := fun w => among_no [32, 9, 10, 13, 11, 12] c w hspf
        have hP1 := pre2 HL.out 61 61
        have hP2 := pre2 HL.out 33 61
        by_cases h61 : c = 61 ∧ (s.data.toList.drop (k + 1)).head? = some 61
        · have hr1 := fun w => hp2 s k 61 61 w true (by rw [hP1]; simpa using h61)
          have hsz2 : k + 2 ≤ s.size := head_room h61.2
          have HH : Hid (hd c (s.data.toList.drop (k + 1)) = (5, 2)) := by unfold Hid hd; rw [if_pos h61]
          have HT' : Hid _ := step_tok HL.out HT.out hspf HH.out
          have hn33 : ((c.toNat : Int) == 33) = false := by rw [h61.1]; decide
          clear hsp h61 hP1 hP2
          go_wp2_with (go_at_call 24; refine (hA _).mono ?_; rintro e w' ⟨rfl, hw⟩; have hw2 := hw.symm; subst hw2; clear hw)
          refine (hr1 _).mono ?_
          rintro e w' ⟨rfl, hw⟩
          have hw2 := hw.symm
          subst hw2
          clear hw
          go_wp2_with (at_builtin; refine wpList_append_own _ rfl (.tmp 91) (.tmp 93) 36 rfl w.heap.size 40 i0 (.agg #[.int .i64 0, .string ByteArray.empty]) 2 24 Try.underlying36 hi hz0 hz1 hz2 rfl (by decide) _ _ _ rfl ((hown.alloc _).alloc _) ⟨wr.heap.size + 1, 0, none⟩ 1 1 [.int .i64 5, .string (s.extract k (k + 2))] rfl rfl (news2 _ _ _ _) (one2 _ _) (by unfold maxLen; omega) (by omega) (by simp; omega) ?_)
          intro v' w1 hown' hgrow _
          obtain ⟨hb1, hc0, hc1, hsz1⟩ := after_append hown hbel hBs hgrow
          rw [ext_str, Nat.add_sub_cancel_left, ← cellsT_snoc] at hown'
          clear hgrow hown hbel HT HL hA hr1
          go_wp2
          go_roundw
          case rel => exact ⟨k + 2, _, by omega, by go_num, by simp; omega, HT', by simpa using hown', hb1⟩
          case measure => simp [intOf]; omega
        · have hr1 := fun w => hp2 s k 61 61 w false (by rw [hP1]; simpa using h61)
          by_cases h33 : c = 33 ∧ (s.data.toList.drop (k + 1)).head? = some 61
          · have hr2 := fun w => hp2 s k 33 61 w true (by rw [hP2]; simpa using h33)
            have hsz2 : k + 2 ≤ s.size := head_room h33.2
            have HH : Hid (hd c (s.data.toList.drop (k + 1)) = (6, 2)) := by unfold Hid hd; rw [if_neg h61, if_pos h33]
            have HT' : Hid _ := step_tok HL.out HT.out hspf HH.out
            have hn33 : ((c.toNat : Int) == 33) = true := by rw [h33.1]; decide
            clear hsp h61 h33 hP1 hP2
            go_wp2_with (go_at_call 24; refine (hA _).mono ?_; rintro e w' ⟨rfl, hw⟩; have hw2 := hw.symm; subst hw2; clear hw)
            refine (hr1 _).mono ?_
            rintro e w' ⟨rfl, hw⟩
            have hw2 := hw.symm
            subst hw2
            clear hw
            go_wp2_with fail
            refine (hr2 _).mono ?_
            rintro e w' ⟨rfl, hw⟩
            have hw2 := hw.symm
            subst hw2
            clear hw
            go_wp2_with (at_builtin; refine wpList_append_own _ rfl (.tmp 91) (.tmp 93) 36 rfl w.heap.size 40 i0 (.agg #[.int .i64 0, .string ByteArray.empty]) 2 24 Try.underlying36 hi hz0 hz1 hz2 rfl (by decide) _ _ _ rfl ((hown.alloc _).alloc _) ⟨wr.heap.size + 1, 0, none⟩ 1 1 [.int .i64 6, .string (s.extract k (k + 2))] rfl rfl (news2 _ _ _ _) (one2 _ _) (by unfold maxLen; omega) (by omega) (by simp; omega) ?_)
            intro v' w1 hown' hgrow _
            obtain ⟨hb1, hc0, hc1, hsz1⟩ := after_append hown hbel hBs hgrow
            rw [ext_str, Nat.add_sub_cancel_left, ← cellsT_snoc] at hown'
            clear hgrow hown hbel HT HL hA hr1 hr2
            go_wp2
            go_roundw
            case rel => exact ⟨k + 2, _, by omega, by go_num, by simp; omega, HT', by simpa using hown', hb1⟩
            case measure => simp [intOf]; omega
          · have hr2 := fun w => hp2 s k 33 61 w false (by rw [hP2]; simpa using h33)
            clear hP1 hP2
            by_cases g61 : c = 61
            · have HH : Hid (hd c (s.data.toList.drop (k + 1)) = (5, 1)) := by unfold Hid hd; rw [if_neg h61, if_neg h33, if_pos g61]
              have HT' : Hid _ := step_tok HL.out HT.out hspf HH.out
              rw [take1 HL.out, g61] at HT'
              have e61 : ((c.toNat : Int) == 61) = true := by rw [g61]; decide
              clear hsp h61 h33 g61
              go_wp2_with (go_at_call 24; refine (hA _).mono ?_; rintro e w' ⟨rfl, hw⟩; have hw2 := hw.symm; subst hw2; clear hw)
              refine (hr1 _).mono ?_
              rintro e w' ⟨rfl, hw⟩
              have hw2 := hw.symm
              subst hw2
              clear hw
              go_wp2_with fail
              refine (hr2 _).mono ?_
              rintro e w' ⟨rfl, hw⟩
              have hw2 := hw.symm
              subst hw2
              clear hw
              go_wp2_with (at_builtin; refine wpList_append_own _ rfl (.tmp 91) (.tmp 93) 36 rfl w.heap.size 40 i0 (.agg #[.int .i64 0, .string ByteArray.empty]) 2 24 Try.underlying36 hi hz0 hz1 hz2 rfl (by decide) _ _ _ rfl ((hown.alloc _).alloc _) ⟨wr.heap.size + 1, 0, none⟩ 1 1 [.int .i64 5, .string (⟨#[61]⟩)] rfl rfl (news2 _ _ _ _) (one2 _ _) (by unfold maxLen; omega) (by omega) (by simp; omega) ?_)
              intro v' w1 hown' hgrow _
              obtain ⟨hb1, hc0, hc1, hsz1⟩ := after_append hown hbel hBs hgrow
              have hsn := cellsT_snoc T 5 [61]
              rw [← hsn] at hown'
              clear hsn
              clear hgrow hown hbel HT HL hA hr1 hr2
              go_wp2
              go_roundw
              case rel => exact ⟨k + 1, _, by omega, by go_num, by simp; omega, HT', by simpa using hown', hb1⟩
              case measure => simp [intOf]; omega
            · have e61 : ((c.toNat : Int) == 61) = false := by have := tnat_ne 61 g61; simpa using this
              by_cases g33 : c = 33
              · have HH : Hid (hd c (s.data.toList.drop (k + 1)) = (7, 1)) := by unfold Hid hd; rw [if_neg h61, if_neg h33, if_neg g61, if_pos g33]
                have HT' : Hid _ := step_tok HL.out HT.out hspf HH.out
                rw [take1 HL.out, g33] at HT'
                have e61 : ((c.toNat : Int) == 61) = false := by rw [g33]; decide
                have e33 : ((c.toNat : Int) == 33) = true := by rw [g33]; decide
                clear hsp h61 h33 g61 g33
                go_wp2_with (go_at_call 24; refine (hA _).mono ?_; rintro e w' ⟨rfl, hw⟩; have hw2 := hw.symm; subst hw2; clear hw)
                refine (hr1 _).mono ?_
                rintro e w' ⟨rfl, hw⟩
                have hw2 := hw.symm
                subst hw2
                clear hw
                go_wp2_with fail
                refine (hr2 _).mono ?_
                rintro e w' ⟨rfl, hw⟩
                have hw2 := hw.symm
                subst hw2
                clear hw
                go_wp2_with (at_builtin; refine wpList_append_own _ rfl (.tmp 91) (.tmp 93) 36 rfl w.heap.size 40 i0 (.agg #[.int .i64 0, .string ByteArray.empty]) 2 24 Try.underlying36 hi hz0 hz1 hz2 rfl (by decide) _ _ _ rfl ((hown.alloc _).alloc _) ⟨wr.heap.size + 1, 0, none⟩ 1 1 [.int .i64 7, .string (⟨#[33]⟩)] rfl rfl (news2 _ _ _ _) (one2 _ _) (by unfold maxLen; omega) (by omega) (by simp; omega) ?_)
                intro v' w1 hown' hgrow _
                obtain ⟨hb1, hc0, hc1, hsz1⟩ := after_append hown hbel hBs hgrow
                have hsn := cellsT_snoc T 7 [33]
                rw [← hsn] at hown'
                clear hsn
                clear hgrow hown hbel HT HL hA hr1 hr2
                go_wp2
                go_roundw
                case rel => exact ⟨k + 1, _, by omega, by go_num, by simp; omega, HT', by simpa using hown', hb1⟩
                case measure => simp [intOf]; omega
              · have e33 : ((c.toNat : Int) == 33) = false := by have := tnat_ne 33 g33; simpa using this
                by_cases g44 : c = 44
                · have HH : Hid (hd c (s.data.toList.drop (k + 1)) = (2, 1)) := by unfold Hid hd; rw [if_neg h61, if_neg h33, if_neg g61, if_neg g33, if_pos g44]
                  have HT' : Hid _ := step_tok HL.out HT.out hspf HH.out
                  rw [take1 HL.out, g44] at HT'
                  have e61 : ((c.toNat : Int) == 61) = false := by rw [g44]; decide
                  have e33 : ((c.toNat : Int) == 33) = false := by rw [g44]; decide
                  have e44 : ((c.toNat : Int) == 44) = true := by rw [g44]; decide
                  clear hsp h61 h33 g61 g33 g44
                  go_wp2_with (go_at_call 24; refine (hA _).mono ?_; rintro e w' ⟨rfl, hw⟩; have hw2 := hw.symm; subst hw2; clear hw)
                  refine (hr1 _).mono ?_
                  rintro e w' ⟨rfl, hw⟩
                  have hw2 := hw.symm
                  subst hw2
                  clear hw
                  go_wp2_with fail
                  refine (hr2 _).mono ?_
                  rintro e w' ⟨rfl, hw⟩
                  have hw2 := hw.symm
                  subst hw2
                  clear hw
                  go_wp2_with (at_builtin; refine wpList_append_own _ rfl (.tmp 91) (.tmp 93) 36 rfl w.heap.size 40 i0 (.agg #[.int .i64 0, .string ByteArray.empty]) 2 24 Try.underlying36 hi hz0 hz1 hz2 rfl (by decide) _ _ _ rfl ((hown.alloc _).alloc _) ⟨wr.heap.size + 1, 0, none⟩ 1 1 [.int .i64 2, .string (⟨#[44]⟩)] rfl rfl (news2 _ _ _ _) (one2 _ _) (by unfold maxLen; omega) (by omega) (by simp; omega) ?_)
                  intro v' w1 hown' hgrow _
                  obtain ⟨hb1, hc0, hc1, hsz1⟩ := after_append hown hbel hBs hgrow
                  have hsn := cellsT_snoc T 2 [44]
                  rw [← hsn] at hown'
                  clear hsn
                  clear hgrow hown hbel HT HL hA hr1 hr2
                  go_wp2
                  go_roundw
                  case rel => exact ⟨k + 1, _, by omega, by go_num, by simp; omega, HT', by simpa using hown', hb1⟩
                  case measure => simp [intOf]; omega
                · have e44 : ((c.toNat : Int) == 44) = false := by have := tnat_ne 44 g44; simpa using this
                  by_cases g40 : c = 40
                  · have HH : Hid (hd c (s.data.toList.drop (k + 1)) = (3, 1)) := by unfold Hid hd; rw [if_neg h61, if_neg h33, if_neg g61, if_neg g33, if_neg g44, if_pos g40]
                    have HT' : Hid _ := step_tok HL.out HT.out hspf HH.out
                    rw [take1 HL.out, g40] at HT'
                    have e61 : ((c.toNat : Int) == 61) = false := by rw [g40]; decide
                    have e33 : ((c.toNat : Int) == 33) = false := by rw [g40]; decide
                    have e44 : ((c.toNat : Int) == 44) = false := by rw [g40]; decide
                    have e40 : ((c.toNat : Int) == 40) = true := by rw [g40]; decide
                    clear hsp h61 h33 g61 g33 g44 g40
                    go_wp2_with (go_at_call 24; refine (hA _).mono ?_; rintro e w' ⟨rfl, hw⟩; have hw2 := hw.symm; subst hw2; clear hw)
                    refine (hr1 _).mono ?_
                    rintro e w' ⟨rfl, hw⟩
                    have hw2 := hw.symm
                    subst hw2
                    clear hw
                    go_wp2_with fail
                    refine (hr2 _).mono ?_
                    rintro e w' ⟨rfl, hw⟩
                    have hw2 := hw.symm
                    subst hw2
                    clear hw
                    go_wp2_with (at_builtin; refine wpList_append_own _ rfl (.tmp 91) (.tmp 93) 36 rfl w.heap.size 40 i0 (.agg #[.int .i64 0, .string ByteArray.empty]) 2 24 Try.underlying36 hi hz0 hz1 hz2 rfl (by decide) _ _ _ rfl ((hown.alloc _).alloc _) ⟨wr.heap.size + 1, 0, none⟩ 1 1 [.int .i64 3, .string (⟨#[40]⟩)] rfl rfl (news2 _ _ _ _) (one2 _ _) (by unfold maxLen; omega) (by omega) (by simp; omega) ?_)
                    intro v' w1 hown' hgrow _
                    obtain ⟨hb1, hc0, hc1, hsz1⟩ := after_append hown hbel hBs hgrow
                    have hsn := cellsT_snoc T 3 [40]
                    rw [← hsn] at hown'
                    clear hsn
                    clear hgrow hown hbel HT HL hA hr1 hr2
                    go_wp2
                    go_roundw
                    case rel => exact ⟨k + 1, _, by omega, by go_num, by simp; omega, HT', by simpa using hown', hb1⟩
                    case measure => simp [intOf]; omega
                  · have e40 : ((c.toNat : Int) == 40) = false := by have := tnat_ne 40 g40; simpa using this
                    by_cases g41 : c = 41
                    · have HH : Hid (hd c (s.data.toList.drop (k + 1)) = (4, 1)) := by unfold Hid hd; rw [if_neg h61, if_neg h33, if_neg g61, if_neg g33, if_neg g44, if_neg g40, if_pos g41]
                      have HT' : Hid _ := step_tok HL.out HT.out hspf HH.out
                      rw [take1 HL.out, g41] at HT'
                      have e61 : ((c.toNat : Int) == 61) = false := by rw [g41]; decide
                      have e33 : ((c.toNat : Int) == 33) = false := by rw [g41]; decide
                      have e44 : ((c.toNat : Int) == 44) = false := by rw [g41]; decide
                      have e40 : ((c.toNat : Int) == 40) = false := by rw [g41]; decide
                      have e41 : ((c.toNat : Int) == 41) = true := by rw [g41]; decide
                      clear hsp h61 h33 g61 g33 g44 g40 g41
                      go_wp2_with (go_at_call 24; refine (hA _).mono ?_; rintro e w' ⟨rfl, hw⟩; have hw2 := hw.symm; subst hw2; clear hw)
                      refine (hr1 _).mono ?_
                      rintro e w' ⟨rfl, hw⟩
                      have hw2 := hw.symm
                      subst hw2
                      clear hw
                      go_wp2_with fail
                      refine (hr2 _).mono ?_
                      rintro e w' ⟨rfl, hw⟩
                      have hw2 := hw.symm
                      subst hw2
                      clear hw
                      go_wp2_with (at_builtin; refine wpList_append_own _ rfl (.tmp 91) (.tmp 93) 36 rfl w.heap.size 40 i0 (.agg #[.int .i64 0, .string ByteArray.empty]) 2 24 Try.underlying36 hi hz0 hz1 hz2 rfl (by decide) _ _ _ rfl ((hown.alloc _).alloc _) ⟨wr.heap.size + 1, 0, none⟩ 1 1 [.int .i64 4, .string (⟨#[41]⟩)] rfl rfl (news2 _ _ _ _) (one2 _ _) (by unfold maxLen; omega) (by omega) (by simp; omega) ?_)
                      intro v' w1 hown' hgrow _
                      obtain ⟨hb1, hc0, hc1, hsz1⟩ := after_append hown hbel hBs hgrow
                      have hsn := cellsT_snoc T 4 [41]
                      rw [← hsn] at hown'
                      clear hsn
                      clear hgrow hown hbel HT HL hA hr1 hr2
                      go_wp2
                      go_roundw
                      case rel => exact ⟨k + 1, _, by omega, by go_num, by simp; omega, HT', by simpa using hown', hb1⟩
                      case measure => simp [intOf]; omega
                    · have e41 : ((c.toNat : Int) == 41) = false := by have := tnat_ne 41 g41; simpa using this
                      have HH : Hid (hd c (s.data.toList.drop (k + 1)) = (1, wlen (s.data.toList.drop (k + 1)) + 1)) := by unfold Hid hd; rw [if_neg h61, if_neg h33, if_neg g61, if_neg g33, if_neg g44, if_neg g40, if_neg g41]
                      have HT' : Hid _ := step_tok HL.out HT.out hspf HH.out
                      have HWL : Hid (∀ j, j < wlen (s.data.toList.drop (k + 1)) → ∃ c, (s.data.toList.drop (k + 1))[j]? = some c ∧ isDl c = false) := wlen_before _
                      have HWS : Hid (∀ c, (s.data.toList.drop (k + 1))[wlen (s.data.toList.drop (k + 1))]? = some c → isDl c = true) := wlen_stop _
                      have HWN : Hid (∀ h : k + 1 + wlen (s.data.toList.drop (k + 1)) < s.size, (s.data.toList.drop (k + 1))[wlen (s.data.toList.drop (k + 1))]? = some (s[k + 1 + wlen (s.data.toList.drop (k + 1))])) := fun h => by
                        rw [List.getElem?_drop]
                        exact List.getElem?_eq_some_iff.2 ⟨by rw [Array.length_toList]; exact h, rfl⟩
                      have hwl : k + 1 + wlen (s.data.toList.drop (k + 1)) ≤ s.size := by
                        have := wlen_le (s.data.toList.drop (k + 1))
                        rw [List.length_drop, Array.length_toList] at this
                        change _ ≤ s.size - (k + 1) at this
                        omega
                      clear hsp h61 h33 g61 g33 g44 g40 g41 HH
                      generalize wlen (s.data.toList.drop (k + 1)) = wl at *
                      go_wp2_with (go_at_call 24; refine (hA _).mono ?_; rintro e w' ⟨rfl, hw⟩; have hw2 := hw.symm; subst hw2; clear hw)
                      refine (hr1 _).mono ?_
                      rintro e w' ⟨rfl, hw⟩
                      have hw2 := hw.symm
                      subst hw2
                      clear hw
                      go_wp2_with fail
                      refine (hr2 _).mono ?_
                      rintro e w' ⟨rfl, hw⟩
                      have hw2 := hw.symm
                      subst hw2
                      clear hw
                      go_wp2_with fail
                      clear hr1 hr2 hA
                      go_loop [6] (fun i => ∃ j : Nat, j ≤ wl ∧ i = .int .i64 (k + 1 + j : Nat)) (fun i => s.size - (intOf i).toNat)
                      case atStart => exact ⟨0, Nat.zero_le _, by go_num⟩
                      case round =>
                        obtain ⟨j, hj, rfl⟩ := hrel
                        by_cases hjl : j < wl
                        · obtain ⟨d, hd1, hd2⟩ := HWL.out j hjl
                          obtain ⟨hlt2, hd3⟩ := at_get hd1
                          have hA := fun w => among_no [32, 9, 10, 13, 11, 12, 44, 40, 41, 61, 33] d w hd2
                          clear hd1 hd2
                          go_wp2_with (go_at_call 24; refine (hA _).mono ?_; rintro e w' ⟨rfl, hw⟩; have hw2 := hw.symm; subst hw2; clear hw)
                          go_round
                          case rel => exact ⟨j + 1, by omega, by go_num⟩
                          case measure => simp [intOf]; omega
                        · obtain rfl : j = wl := by omega
                          have e9 : k + 1 + j - k = j + 1 := by omega
                          have hext : s.extract k (k + 1 + j) = ⟨((s.data.toList.drop k).take (j + 1)).toArray⟩ := by rw [ext_str, e9]
                          have HEXT : Hid _ := hext
                          clear e9 hext HWL
                          by_cases hend : k + 1 + j < s.size
                          · obtain ⟨d, hd3⟩ : ∃ d, s[k + 1 + j] = d := ⟨_, rfl⟩
                            have hdl : isDl d = true := HWS.out d (by rw [HWN.out hend, hd3])
                            have hA := fun w => among_yes [32, 9, 10, 13, 11, 12, 44, 40, 41, 61, 33] d w hdl
                            clear hdl HWS HWN
                            go_wp2_with (first | (go_at_call 24; refine (hA _).mono ?_; rintro e w' ⟨⟨i, rfl, hi0⟩, hw⟩; have hw2 := hw.symm; subst hw2; clear hw) | (at_builtin; refine wpList_append_own _ rfl (.tmp 91) (.tmp 93) 36 rfl w.heap.size 40 i0 (.agg #[.int .i64 0, .string ByteArray.empty]) 2 24 Try.underlying36 hi hz0 hz1 hz2 rfl (by decide) _ _ _ rfl ((hown.alloc _).alloc _) ⟨wr.heap.size + 1, 0, none⟩ 1 1 [.int .i64 1, .string (s.extract k (k + 1 + j))] rfl rfl (news2 _ _ _ _) (one2 _ _) (by unfold maxLen; omega) (by omega) (by simp; omega) ?_))
                            intro v' w1 hown' hgrow _
                            obtain ⟨hb1, hc0, hc1, hsz1⟩ := after_append hown hbel hBs hgrow
                            rw [HEXT.out, ← cellsT_snoc] at hown'
                            clear hgrow hown hbel HT HL hA HEXT
                            go_wp2
                            go_roundw
                            case rel => exact ⟨k + (j + 1), _, by omega, by go_num, by simp; omega, HT', by simpa using hown', hb1⟩
                            case measure => simp [intOf]; omega
                          · have hend2 : s.size ≤ k + 1 + j := by omega
                            clear HWS HWN hend
                            go_wp2_with (at_builtin; refine wpList_append_own _ rfl (.tmp 91) (.tmp 93) 36 rfl w.heap.size 40 i0 (.agg #[.int .i64 0, .string ByteArray.empty]) 2 24 Try.underlying36 hi hz0 hz1 hz2 rfl (by decide) _ _ _ rfl ((hown.alloc _).alloc _) ⟨wr.heap.size + 1, 0, none⟩ 1 1 [.int .i64 1, .string (s.extract k (k + 1 + j))] rfl rfl (news2 _ _ _ _) (one2 _ _) (by unfold maxLen; omega) (by omega) (by simp; omega) ?_)
                            intro v' w1 hown' hgrow _
                            obtain ⟨hb1, hc0, hc1, hsz1⟩ := after_append hown hbel hBs hgrow
                            rw [HEXT.out, ← cellsT_snoc] at hown'
                            clear hgrow hown hbel HT HL HEXT
                            go_wp2
                            go_roundw
                            case rel => exact ⟨k + (j + 1), _, by omega, by go_num, by simp; omega, HT', by simpa using hown', hb1⟩
                            case measure => simp [intOf]; omega
    · obtain rfl : k = s.size := by omega
      have hTe : T = tok s.data.toList := by
        have h := HT.out
        rw [List.drop_of_length_le (by rw [Array.length_toList]; exact Nat.le_refl _), tok_nil, List.append_nil] at h
        exact h
      have HTe : Hid _ := hTe
      clear HT hlt hTe
      go_wp2_with (at_builtin; refine wpList_append_own _ rfl (.tmp 100) (.tmp 102) 36 rfl w.heap.size 40 i0 (.agg #[.int .i64 0, .string ByteArray.empty]) 2 24 Try.underlying36 hi hz0 hz1 hz2 rfl (by decide) _ _ _ rfl (hown.alloc _) ⟨wr.heap.size, 0, none⟩ 1 1 [.int .i64 0, .string ⟨#[]⟩] rfl rfl (news1 _ _ _) (one2 _ _) (by unfold maxLen; omega) (by omega) (by simp; omega) ?_)
      intro v' w1 hown' hgrow _
      have hb1 : Below w.heap.size w w1 := (hbel.alloc hBs _).grown hgrow (by simp; omega) (fun k e => (hown.lt k e).1)
      have hsn := cellsT_snoc T 0 []
      rw [← hsn, HTe.out] at hown'
      clear hsn hgrow hown hbel HTe
      go_wp2
      go_ret
      exact ⟨v', rfl, hown', hb1⟩

end Go.Proofs.Qxb6606183a
