import Derived.Test.Qxb6606183aSpace
import Derived.Test.Qxb6606183aModel
namespace Go.Proofs.Qxb6606183a
set_option linter.unusedVariables false
set_option linter.unusedSimpArgs false
open Go.ChangeShapes Go.WideShapes Go.ChangeAt Go.RowKit

theorem isSp_nat (c : UInt8) : isSp c = (decide (c.toNat = 32) || (decide (9 ≤ c.toNat) && decide (c.toNat ≤ 13))) := by
  have := all_u8 (p := fun c => isSp c == (decide (c.toNat = 32) || (decide (9 ≤ c.toNat) && decide (c.toNat ≤ 13)))) (by decide +kernel) c
  simpa using this

set_option maxHeartbeats 400000 in
/-- zzSelB1IsSpace. -/
theorem issp_any (c : UInt8) (w : World) : Calls Try.prog 21 #[.int .u8 (c.toNat : Int)] w fun e w' => e = .returned (.bool (isSp c)) ∧ w' = w := by
  rw [isSp_nat]
  generalize c.toNat = z
  by_cases h32 : z = 32
  · have h1 : ((z : Int) == 32) = true := by simp; omega
    have hr : (decide (z = 32) || (decide (9 ≤ z) && decide (z ≤ 13))) = true := by simp [h32]
    rw [hr]
    clear hr h32
    go_enter Try.func21, Try.ntmps21
    go_wp2
    go_ret
    exact ⟨rfl, rfl⟩
  · have h1 : ((z : Int) == 32) = false := by simp; omega
    by_cases h9 : 9 ≤ z
    · by_cases h13 : z ≤ 13
      · have hr : (decide (z = 32) || (decide (9 ≤ z) && decide (z ≤ 13))) = true := by simp [h9, h13]
        rw [hr]
        have h13' : decide ((z : Int) ≤ 13) = true := by simp; omega
        clear hr h32
        go_enter Try.func21, Try.ntmps21
        go_wp2
        go_ret
        exact ⟨rfl, rfl⟩
      · have hr : (decide (z = 32) || (decide (9 ≤ z) && decide (z ≤ 13))) = false := by simp [h32, h13]
        rw [hr]
        have h13' : decide ((z : Int) ≤ 13) = false := by simp; omega
        clear hr h32
        go_enter Try.func21, Try.ntmps21
        go_wp2
        go_ret
        exact ⟨rfl, rfl⟩
    · have hr : (decide (z = 32) || (decide (9 ≤ z) && decide (z ≤ 13))) = false := by simp [h32, h9]
      rw [hr]
      have h9' : decide (9 ≤ (z : Int)) = false := by simp; omega
      clear hr h32
      go_enter Try.func21, Try.ntmps21
      go_wp2
      go_ret
      exact ⟨rfl, rfl⟩

theorem ne_true {c : UInt8} (a : UInt8) (h : c ≠ a) : ((c.toNat : Int) != (a.toNat : Int)) = true := by
  have := tnat_ne a h
  simp only [bne, this, Bool.not_false]

set_option maxHeartbeats 1000000 in
/-- zzSelB1IsWordByte: no. -/
theorem isw_no (c : UInt8) (w : World) (hd : isDl c = true) : Calls Try.prog 22 #[.int .u8 (c.toNat : Int)] w fun e w' => e = .returned (.bool false) ∧ w' = w := by
  have hA := fun w => issp_any c w
  by_cases hs : isSp c = true
  · rw [hs] at hA
    clear hs hd
    generalize (c.toNat : Int) = z at *
    go_enter Try.func22, Try.ntmps22
    go_wp2_with (go_at_call 21; refine (hA _).mono ?_; rintro e w' ⟨rfl, rfl⟩)
    go_ret
    exact ⟨rfl, rfl⟩
  · have hs' : isSp c = false := by simpa using hs
    rw [hs'] at hA
    rcases dl_cases hs' hd with rfl | rfl | rfl | rfl | rfl
    all_goals
      clear hs hd hs'
      go_enter Try.func22, Try.ntmps22
      go_wp2_with (go_at_call 21; refine (hA _).mono ?_; rintro e w' ⟨rfl, rfl⟩)
      go_ret
      exact ⟨rfl, rfl⟩

set_option maxHeartbeats 1000000 in
/-- zzSelB1IsWordByte: yes. -/
theorem isw_yes (c : UInt8) (w : World) (hd : isDl c = false) : Calls Try.prog 22 #[.int .u8 (c.toNat : Int)] w fun e w' => e = .returned (.bool true) ∧ w' = w := by
  have hA := fun w => issp_any c w
  rw [nd_sp hd] at hA
  obtain ⟨g1, g2, g3, g4, g5⟩ := nd_ne hd
  have e1 : ((c.toNat : Int) != 61) = true := by simpa using ne_true 61 g1
  have e2 : ((c.toNat : Int) != 33) = true := by simpa using ne_true 33 g2
  have e3 : ((c.toNat : Int) != 44) = true := by simpa using ne_true 44 g3
  have e4 : ((c.toNat : Int) != 40) = true := by simpa using ne_true 40 g4
  have e5 : ((c.toNat : Int) != 41) = true := by simpa using ne_true 41 g5
  clear g1 g2 g3 g4 g5 hd
  generalize (c.toNat : Int) = z at *
  go_enter Try.func22, Try.ntmps22
  go_wp2_with (go_at_call 21; refine (hA _).mono ?_; rintro e w' ⟨rfl, rfl⟩)
  go_ret
  exact ⟨rfl, rfl⟩

set_option maxHeartbeats 1000000 in
/-- zzSelB1SingleKind at the five. -/
theorem kind_any (c : UInt8) (w : World) (hs : isSp c = false) (hd : isDl c = true) : Calls Try.prog 23 #[.int .u8 (c.toNat : Int)] w fun e w' => e = .returned (.int .i64 (k1 c)) ∧ w' = w := by
  rcases dl_cases hs hd with rfl | rfl | rfl | rfl | rfl
  all_goals
    clear hs hd
    go_enter Try.func23, Try.ntmps23
    go_wp2
    go_ret
    exact ⟨rfl, rfl⟩

/-! ### The relation at the head of the model's loop -/
structure RelM (s : ByteArray) (w : World) (k p : Nat) (q : Int) (T : List (Int × List UInt8)) (v : Value) (wr : World) : Prop where
  toks : T = tok (s.data.toList.take k)
  pk : p ≤ k
  qlo : -1 ≤ q
  near : touch (s.data.toList.take k) = true → q = k ∧ p < k ∧ ∃ T0 kd, T = T0 ++ [(kd, (s.data.toList.drop p).take (k - p))]
  far : touch (s.data.toList.take k) = false → q < k
  len : T.length ≤ k
  nil : T = [] → v = .slice none 0 0
  own : wr.ownsRow w.heap.size 35 2 v T.length (cellsT T)
  bel : Below w.heap.size w wr

theorem take_snoc {s : ByteArray} {k : Nat} (h : k < s.size) : s.data.toList.take (k + 1) = s.data.toList.take k ++ [s[k]] := by
  have hl : k < s.data.toList.length := by rw [Array.length_toList]; exact h
  rw [List.take_succ_eq_append_getElem hl]; rfl

theorem relM_start (s : ByteArray) (w : World) : RelM s w 0 0 (-1) [] (.slice none 0 0) w :=
  ⟨rfl, Nat.le_refl _, by omega, fun h => (by simp [touch_nil] at h), fun _ => by omega, Nat.le_refl _, fun _ => rfl, World.ownsRow_nil _ _ _ _, Below.refl _ _⟩

/-- A space. -/
theorem relM_sp {s : ByteArray} {w wr : World} {k p : Nat} {q : Int} {T : List (Int × List UInt8)} {v : Value} (h : RelM s w k p q T v wr) (hk : k < s.size) (hs : isSp s[k] = true) : RelM s w (k + 1) p q T v wr := by
  have ht : touch (s.data.toList.take (k + 1)) = false := by rw [take_snoc hk, touch_snoc, hs]; rfl
  refine ⟨by rw [take_snoc hk, snoc_sp hs]; exact h.toks, by have := h.pk; omega, h.qlo, fun e => (by rw [ht] at e; cases e), fun _ => ?_, by have := h.len; omega, h.nil, h.own, h.bel⟩
  cases hh : touch (s.data.toList.take k) with
  | true => have := (h.near hh).1; omega
  | false => have := h.far hh; omega

/-- A new token. -/
theorem relM_app {s : ByteArray} {w w1 : World} {k : Nat} {T : List (Int × List UInt8)} {v' : Value} (hk : k < s.size) (hs : isSp s[k] = false) (hlen : T.length ≤ k)
    (htok : tok (s.data.toList.take (k + 1)) = T ++ [(k1 s[k], [s[k]])]) (hown : w1.ownsRow w.heap.size 35 2 v' (T.length + 1) (cellsT T ++ [.int .i64 (k1 s[k]), .string (s.extract k (k + 1))])) (hb : Below w.heap.size w w1) :
    RelM s w (k + 1) k ((k : Int) + 1) (T ++ [(k1 s[k], [s[k]])]) v' w1 := by
  have e1 : (s.data.toList.drop k).take (k + 1 - k) = [s[k]] := by
    rw [show k + 1 - k = 1 by omega]; exact take1 (drop_cons hk)
  have ht : touch (s.data.toList.take (k + 1)) = true := by rw [take_snoc hk, touch_snoc, hs]; rfl
  refine ⟨htok.symm, by omega, by omega, fun _ => ⟨by omega, by omega, T, _, by rw [e1]⟩, fun e => (by rw [ht] at e; cases e), by simp; omega, fun e => (by simp at e), ?_, hb⟩
  rw [ext_str, e1, ← cellsT_snoc] at hown
  simpa using hown

theorem cells_text (T : List (Int × List UInt8)) (kd : Int) (x y : List UInt8) : (cellsT (T ++ [(kd, x)])).set (T.length * 2 + 1) (.string ⟨y.toArray⟩) = cellsT (T ++ [(kd, y)]) := by
  rw [cellsT_snoc, cellsT_snoc, ← cellsT_len, List.set_append_right _ _ (by omega)]
  simp
theorem cells_kind (T : List (Int × List UInt8)) (kd kd' : Int) (x : List UInt8) : (cellsT (T ++ [(kd, x)])).set (T.length * 2) (.int .i64 kd') = cellsT (T ++ [(kd', x)]) := by
  rw [cellsT_snoc, cellsT_snoc, ← cellsT_len, List.set_append_right _ _ (by omega)]
  simp

/-- The last token grown. -/
theorem relM_ext {s : ByteArray} {w w1 : World} {k p : Nat} {T0 : List (Int × List UInt8)} {kd : Int} {v : Value} (hk : k < s.size) (hs : isSp s[k] = false) (hp : p < k) (hlen : T0.length + 1 ≤ k)
    (htok : tok (s.data.toList.take (k + 1)) = T0 ++ [(kd, (s.data.toList.drop p).take (k - p) ++ [s[k]])]) (hown : w1.ownsRow w.heap.size 35 2 v (T0.length + 1) (cellsT (T0 ++ [(kd, (s.data.toList.drop p).take (k + 1 - p))]))) (hb : Below w.heap.size w w1) :
    RelM s w (k + 1) p ((k : Int) + 1) (T0 ++ [(kd, (s.data.toList.drop p).take (k + 1 - p))]) v w1 := by
  have e1 : (s.data.toList.drop p).take (k + 1 - p) = (s.data.toList.drop p).take (k - p) ++ [s[k]] := by
    have hl : k - p < (s.data.toList.drop p).length := by
      have hsl : s.data.toList.length = s.size := Array.length_toList
      rw [List.length_drop, hsl]; omega
    rw [show k + 1 - p = (k - p) + 1 by omega, List.take_succ_eq_append_getElem hl, List.getElem_drop]
    have e : p + (k - p) = k := by omega
    congr 2
    simp only [e]
    rfl
  have ht : touch (s.data.toList.take (k + 1)) = true := by rw [take_snoc hk, touch_snoc, hs]; rfl
  exact ⟨by rw [e1]; exact htok.symm, by omega, by omega, fun _ => ⟨by omega, by omega, T0, _, rfl⟩, fun e => (by rw [ht] at e; cases e), by simp; omega, fun e => (by simp at e), by simpa using hown, hb⟩

end Go.Proofs.Qxb6606183a
