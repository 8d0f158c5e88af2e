import Derived.Test.Qxb6606183aLib
import Derived.Lib.RabinKarpLaws
namespace Go.Proofs.Qxb6606183a
set_option linter.unusedVariables false
set_option linter.unusedSimpArgs false
open Go.ChangeShapes Go.WideShapes Go.ChangeAt Go.RowKit

theorem Try.info40 : (Try.prog.info? 40).map (fun i => (i.zero, i.size, i.bytes)) = some (some (.agg #[.int .i64 0, .string ByteArray.empty]), 2, 24) := by kernel_rfl

/-- The cells of a row of tokens. -/
def cellsT (T : List (Int × List UInt8)) : List Value := T.flatMap fun t => [.int .i64 t.1, .string ⟨t.2.toArray⟩]

theorem cellsT_len (T : List (Int × List UInt8)) : (cellsT T).length = T.length * 2 := by
  induction T with
  | nil => rfl
  | cons t T ih => simp only [cellsT, List.flatMap_cons, List.length_append, List.length_cons, List.length_nil] at ih ⊢; omega

/-- A cut of a string, by its bytes. -/
theorem ext_str (s : ByteArray) (i j : Nat) : s.extract i j = ⟨((s.data.toList.drop i).take (j - i)).toArray⟩ := by
  have h : (s.extract i j).data.toList = (s.data.toList.drop i).take (j - i) := by
    rw [ByteArray.data_extract, Array.toList_extract, List.extract_eq_take_drop]
  cases hh : s.extract i j with
  | mk d =>
    rw [hh] at h
    simp only at h
    rw [← h]

theorem cellsT_snoc (T : List (Int × List UInt8)) (k : Int) (l : List UInt8) : cellsT (T ++ [(k, l)]) = cellsT T ++ [.int .i64 k, .string ⟨l.toArray⟩] := by
  simp [cellsT]

/-- What an append of one token does to the world: nothing old has turned; the struct that was laid ahead reads on. -/
theorem after_append {B : Nat} {w wr w1 : World} {v : Value} {n : Nat} {xs : List Value} {a b : Value} {O2 : Obj}
    (hown : wr.ownsRow B 40 2 v n xs) (hbel : Below B w wr) (hB : B ≤ wr.heap.size) (hg : ((wr.alloc (.cells #[a, b] 40)).alloc O2).grownBy w1 v.ownBlock) :
    Below B w w1 ∧ w1.cell? ⟨wr.heap.size, 0, none⟩ = some a ∧ w1.cell? ⟨wr.heap.size, 1, none⟩ = some b ∧ wr.heap.size < w1.heap.size := by
  have hne : some wr.heap.size ≠ v.ownBlock := fun e => by have := (hown.lt _ e.symm).2; omega
  have hs2 : ((wr.alloc (.cells #[a, b] 40)).alloc O2).heap.size = wr.heap.size + 2 := by simp
  have hb : w1.heap[wr.heap.size]? = some (.cells #[a, b] 40) := by
    rw [hg.block wr.heap.size (by rw [hs2]; omega) hne, Below.heap_alloc _ _ _ (by simp), heap_alloc_new]
  refine ⟨(hbel.alloc hB _ |>.alloc (by simp; omega) _).grown hg (by rw [hs2]; omega) (fun k e => (hown.lt k e).1), ?_, ?_, ?_⟩
  · simp only [World.cell?, hb]; rfl
  · simp only [World.cell?, hb]; rfl
  · have := hg.size; rw [hs2] at this; omega

set_option maxHeartbeats 400000 in
/-- strings.HasPrefix of a tail, the prefix of two bytes. -/
theorem hp2 (s : ByteArray) (k : Nat) (a b : UInt8) (w : World) (r : Bool) (hr : ((s.data.toList.drop k).take 2 == [a, b]) = r) :
    Calls Try.prog 25 #[.string (s.extract k s.size), .string ⟨#[a, b]⟩] w fun e w' => e = .returned (.bool r) ∧ w' = w := by
  have hsz : (s.extract k s.size).size = s.size - k := by simp [ByteArray.size_extract]
  have hsl : s.data.toList.length = s.size := Array.length_toList
  have h : ∀ w, Calls Try.prog 27 #[.string (s.extract k s.size), .string ⟨#[a, b]⟩] w fun e w' => e = .returned (.bool r) ∧ w' = w := by
    intro w
    by_cases hl : s.size - k < 2
    · refine (slite_hp_short (s.extract k s.size) ⟨#[a, b]⟩ w (by rw [hsz]; exact hl)).mono ?_
      rintro e w' ⟨rfl, rfl⟩
      refine ⟨?_, rfl⟩
      have : ((s.data.toList.drop k).take 2 == [a, b]) = false := by
        rw [beq_eq_false_iff_ne]
        intro e
        have := congrArg List.length e
        simp at this
        omega
      rw [← hr, this]
    · refine (slite_hp_long (s.extract k s.size) ⟨#[a, b]⟩ w (by rw [hsz]; show 2 ≤ _; omega)).mono ?_
      rintro e w' ⟨rfl, rfl⟩
      refine ⟨?_, rfl⟩
      have e1 : ((s.extract k s.size).extract 0 (⟨#[a, b]⟩ : ByteArray).size).toList = (s.data.toList.drop k).take 2 := by
        rw [Lib.toList_data, ext_str, ext_str]
        show ((List.drop 0 (List.take (s.size - k) (List.drop k s.data.toList))).take (2 - 0)) = _
        rw [List.drop_zero, List.take_of_length_le (l := List.drop k s.data.toList) (by simp [hsl])]
      rw [e1, Lib.toList_data, ← hr]
  clear hsz hsl hr
  generalize s.extract k s.size = t at *
  go_enter Try.func25, Try.ntmps25
  go_wp2_with (go_at_call 27; refine (h _).mono ?_; rintro e w' ⟨rfl, rfl⟩)
  go_ret
  exact ⟨rfl, rfl⟩

end Go.Proofs.Qxb6606183a
