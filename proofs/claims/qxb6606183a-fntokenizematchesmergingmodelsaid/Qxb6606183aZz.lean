import Derived.Test.Qxb6606183aTok2
import Derived.Deep.OwnRows
import Derived.RegionTactic
namespace Go.Proofs.Qxb6606183a
set_option linter.unusedVariables false
set_option linter.unusedSimpArgs false
open Go.ChangeShapes Go.WideShapes Go.ChangeAt Go.RowKit

theorem Try.info35 : (Try.prog.info? 35).map (fun i => (i.zero, i.size, i.bytes)) = some (some (.agg #[.int .i64 0, .string ByteArray.empty]), 2, 24) := by kernel_rfl

/-- A row of tokens that can be read at block b. -/
structure Tks (w : World) (b : Nat) (L : List (Int × List UInt8)) : Prop where
  lt : b < w.heap.size
  kind : ∀ i (h : i < L.length), w.cell? ⟨b, i * 2, none⟩ = some (.int .i64 L[i].1)
  text : ∀ i (h : i < L.length), w.cell? ⟨b, i * 2 + 1, none⟩ = some (.string ⟨L[i].2.toArray⟩)

theorem cellsT_even (L : List (Int × List UInt8)) : ∀ i (h : i < L.length), (cellsT L)[i * 2]? = some (.int .i64 L[i].1) := by
  induction L with
  | nil => intro i h; simp at h
  | cons t L ih =>
    intro i h
    cases i with
    | zero => simp [cellsT]
    | succ i =>
      have := ih i (by simpa using h)
      have e : (i + 1) * 2 = i * 2 + 2 := by omega
      rw [e]
      simpa [cellsT] using this
theorem cellsT_odd (L : List (Int × List UInt8)) : ∀ i (h : i < L.length), (cellsT L)[i * 2 + 1]? = some (.string ⟨L[i].2.toArray⟩) := by
  induction L with
  | nil => intro i h; simp at h
  | cons t L ih =>
    intro i h
    cases i with
    | zero => simp [cellsT]
    | succ i =>
      have := ih i (by simpa using h)
      have e : (i + 1) * 2 + 1 = i * 2 + 1 + 2 := by omega
      rw [e]
      simpa [cellsT] using this

/-- What is owned can be read. -/
theorem tks_of_own {w : World} {B e : Nat} {v : Value} {L : List (Int × List UInt8)} {n : Nat} (hn : L.length = n) (h0 : 0 < n) (h : w.ownsRow B e 2 v n (cellsT L)) : ∃ g cap, v = .slice (some ⟨g, 0, none⟩) n cap ∧ B ≤ g ∧ n ≤ cap ∧ Tks w g L := by
  have h' := h
  rcases h.2 with ⟨_, hz⟩ | ⟨g, cap, cur, hv, hg, hh, hc, _⟩
  · omega
  · subst hv
    refine ⟨g, cap, rfl, hg, hc, (h'.lt g rfl).2, fun i hi => ?_, fun i hi => ?_⟩
    · rw [h'.cellAt (i * 2) (by omega), cellsT_even L i hi]
    · rw [h'.cellAt (i * 2 + 1) (by omega), cellsT_odd L i hi]

theorem Tks.mono {w w' : World} {b : Nat} {L : List (Int × List UInt8)} (h : Tks w b L) (hb : Below w.heap.size w w') : Tks w' b L :=
  ⟨Nat.lt_of_lt_of_le h.lt hb.size, fun i hi => by rw [hb.cell (p := ⟨b, i * 2, none⟩) h.lt]; exact h.kind i hi, fun i hi => by rw [hb.cell (p := ⟨b, i * 2 + 1, none⟩) h.lt]; exact h.text i hi⟩

theorem tok_len : ∀ (n : Nat) (l : List UInt8), l.length ≤ n → (tok l).length ≤ l.length
  | _, [], _ => Nat.le_refl _
  | 0, c :: l, h => by simp at h
  | n + 1, c :: l, h => by
    simp only [List.length_cons] at h
    by_cases hs : isSp c = true
    · rw [tok_sp hs]
      have := tok_len n l (by omega)
      simp only [List.length_cons]; omega
    · have hp := hd_pos c l
      rw [tok_cons (by simpa using hs)]
      have := tok_len n ((c :: l).drop (hd c l).2) (by simp; omega)
      simp only [List.length_cons, List.length_drop] at this ⊢
      omega

/-- k tokens are copied into the row f. -/
def Filled (L : List (Int × List UInt8)) (k : Nat) (f : Nat → Value) : Prop :=
  ∀ i (h : i < L.length), i < k → f (i * 2) = .int .i64 L[i].1 ∧ f (i * 2 + 1) = .string ⟨L[i].2.toArray⟩

theorem filled_step {w : World} {b n k : Nat} {L : List (Int × List UInt8)} {f : Nat → Value} (hk : k < L.length) (h : w.rowIs b 35 n f) (hf : Filled L k f) :
    ∃ f', ((w.setCell ⟨b, k * 2, none⟩ (.int .i64 L[k].1)).setCell ⟨b, k * 2 + 1, none⟩ (.string ⟨L[k].2.toArray⟩)).rowIs b 35 n f' ∧ Filled L (k + 1) f' := by
  refine ⟨_, (h.set (k * 2) _).set (k * 2 + 1) _, fun i hi hik => ?_⟩
  by_cases e : i = k
  · subst e
    exact ⟨by rw [if_neg (by omega), if_pos rfl], by rw [if_pos rfl]⟩
  · have := hf i hi (by omega)
    exact ⟨by rw [if_neg (by omega), if_neg (by omega)]; exact this.1, by rw [if_neg (by omega), if_neg (by omega)]; exact this.2⟩

theorem row_any (w : World) (c : Array Value) (n : Nat) (h : c.size = n) : ∃ f, (w.alloc (.cells c 35)).rowIs w.heap.size 35 n f := by
  subst h
  exact ⟨fun i => (c[i]?).getD undef, World.rowIs_alloc w c 35 _ (fun i hi => by simp [hi])⟩

theorem tks_of_row {w : World} {b : Nat} {L : List (Int × List UInt8)} {f : Nat → Value} (h : w.rowIs b 35 (L.length * 2) f) (hf : Filled L L.length f) : Tks w b L :=
  ⟨h.lt, fun i hi => by rw [h.cell (by omega), (hf i hi hi).1], fun i hi => by rw [h.cell (by omega), (hf i hi hi).2]⟩

set_option maxHeartbeats 1000000 in
theorem zz_any (s : ByteArray) (w : World) (hs : s.size ≤ 2097152) :
    Calls Try.prog 16 #[.string s] w fun e w' => ∃ b, e = .returned (.slice (some ⟨b, 0, none⟩) ((tok s.data.toList).length + 1) ((tok s.data.toList).length + 1)) ∧ w.heap.size ≤ b ∧ Tks w' b (tok s.data.toList ++ [(0, [])]) ∧ Below w.heap.size w w' := by
  have hlen : (tok s.data.toList ++ [(0, [])]).length = (tok s.data.toList).length + 1 := by simp
  have htl := tok_len _ s.data.toList (Nat.le_refl _)
  have hsl : s.data.toList.length = s.size := Array.length_toList
  have hN : (tok s.data.toList).length + 1 ≤ 2097153 := by omega
  have hN0 : 0 < (tok s.data.toList).length + 1 := by omega
  have hT := tok_any s w hs
  obtain ⟨i0, hi, hz0, hz1, hz2⟩ := info_parts Try.info35
  clear htl hsl
  generalize tok s.data.toList ++ [(0, [])] = L at *
  generalize (tok s.data.toList).length + 1 = N at *
  have hmk : ∀ w, (Instr.makeSlice 31 (.int .i64 (N : Int)) (.int .i64 (N : Int))).run Try.prog w = .ok (.slice (some ⟨w.heap.size, 0, none⟩) N N) (w.alloc (.cells (madeCells #[.int .i64 0, .string ByteArray.empty] (N * 2)) 35)) := fun w => by
    have := run_make (P := Try.prog) w 31 35 i0 _ Try.underlying31 hi hz0 .i64 .i64 (N : Int) (N : Int) (by omega) (by omega) (by rw [hz2]; omega) (by omega)
    simp only [hz1, Int.toNat_natCast] at this
    exact this
  have HLEN : Hid (L.length = N) := hlen
  clear hi hz0 hz1 hz2 hlen
  go_enter Try.func16, Try.ntmps16
  go_wp2_with fail
  refine hT.mono ?_
  rintro e w1 ⟨v, rfl, hown, hb1⟩
  obtain ⟨g, cap, rfl, hg, hcap, htk⟩ := tks_of_own HLEN.out hN0 hown
  clear hown hT
  go_wp2_with fail
  clear hmk
  go_loopw [5] (fun i wr => ∃ k : Nat, k ≤ N ∧ i = .int .i64 k ∧ (∃ f, wr.rowIs w1.heap.size 35 (N * 2) f ∧ Filled L k f) ∧ Below w1.heap.size w1 wr) (fun i _ => N - (intOf i).toNat)
  case atStart =>
    obtain ⟨f, hf⟩ := row_any w1 (madeCells #[.int .i64 0, .string ByteArray.empty] (N * 2)) (N * 2) (size_madeCells _ _)
    exact ⟨0, Nat.zero_le _, rfl, ⟨f, hf, fun i _ h => absurd h (Nat.not_lt_zero _)⟩, (Below.refl _ _).alloc (Nat.le_refl _) _⟩
  case round =>
    obtain ⟨k, hk, rfl, ⟨f, hrow, hfil⟩, hbel⟩ := hrel
    by_cases hlt : k < N
    · have hkL : k < L.length := by rw [HLEN.out]; exact hlt
      obtain ⟨f', hrow', hfil'⟩ := filled_step hkL hrow hfil
      have htk' := htk.mono hbel
      have h1 := htk'.kind k hkL
      have h2 := htk'.text k hkL
      have h3 := hrow.frozen (k * 2)
      have h4 := hrow.frozen (k * 2 + 1)
      have h5 := hrow.cell (i := k * 2) (by omega)
      have h6 := hrow.cell (i := k * 2 + 1) (by omega)
      have HR : Hid _ := hrow'
      have HF : Hid _ := hfil'
      clear hrow' hfil' htk htk' hrow hfil
      generalize L[k].1 = kd at *
      generalize (⟨L[k].2.toArray⟩ : ByteArray) = tx at *
      generalize f (k * 2) = o1 at *
      generalize f (k * 2 + 1) = o2 at *
      go_wp2_with fail
      go_region
      go_wp2
      go_roundw
      case rel => exact ⟨k + 1, by omega, by go_num, ⟨f', World.rowIs.drew HR.out, HF.out⟩, ((hbel.setCell (Nat.le_refl _) _).setCell (Nat.le_refl _) _).drew⟩
      case measure => simp [intOf]; omega
    · obtain rfl : k = N := by omega
      have ht : Tks wr w1.heap.size L := by
        have e := HLEN.out
        subst e
        exact tks_of_row hrow hfil
      clear hrow hfil htk
      go_wp2
      go_ret
      exact ⟨w1.heap.size, rfl, hb1.size, ht, hb1.trans (hbel.mono hb1.size)⟩

set_option maxHeartbeats 1000000 in
/-- zzSelB1TokensEqual at two rows of the same tokens. -/
theorem teq_any (b1 b2 N c1 c2 : Nat) (L : List (Int × List UInt8)) (w : World) (hN : L.length = N) (hb : N ≤ 2097153) (h1 : Tks w b1 L) (h2 : Tks w b2 L) (hc1 : N ≤ c1) (hc2 : N ≤ c2) :
    Calls Try.prog 15 #[.slice (some ⟨b1, 0, none⟩) N c1, .slice (some ⟨b2, 0, none⟩) N c2] w fun e w' => e = .returned (.bool true) ∧ Below w.heap.size w w' := by
  have hself : ((N : Int) != (N : Int)) = false := by simp
  have HLEN : Hid (L.length = N) := hN
  clear hN
  go_enter Try.func15, Try.ntmps15
  go_wp2_with fail
  go_loopw [5] (fun i wr => ∃ k : Nat, k ≤ N ∧ i = .int .i64 k ∧ Below w.heap.size w wr) (fun i _ => N - (intOf i).toNat)
  case atStart => exact ⟨0, Nat.zero_le _, rfl, Below.refl _ _⟩
  case round =>
    obtain ⟨k, hk, rfl, hbel⟩ := hrel
    by_cases hlt : k < N
    · have hkL : k < L.length := by rw [HLEN.out]; exact hlt
      have g1 := (h1.mono hbel).kind k hkL
      have g2 := (h1.mono hbel).text k hkL
      have g3 := (h2.mono hbel).kind k hkL
      have g4 := (h2.mono hbel).text k hkL
      clear h1 h2
      generalize L[k].1 = kd at *
      generalize (⟨L[k].2.toArray⟩ : ByteArray) = tx at *
      have e1 : (kd != kd) = false := by simp
      go_wp2_with fail
      go_quiet (fail)
      go_wp2
      go_roundw
      case rel => exact ⟨k + 1, by omega, by go_num, hbel.trans ⟨rfl, rfl, rfl, Nat.le_refl _, fun _ _ => rfl⟩⟩
      case measure => simp [intOf]; omega
    · go_wp2
      go_ret
      exact ⟨rfl, hbel⟩

end Go.Proofs.Qxb6606183a
