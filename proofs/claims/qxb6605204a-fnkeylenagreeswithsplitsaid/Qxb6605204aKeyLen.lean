import Derived.Test.Qxb6605204aKit
import Derived.Test.Qxb6605204aPlain
import Derived.Lib.BytesEntry
import Derived.Lib.Walk
namespace Go.Proofs.Qxb6605204a
set_option linter.unusedVariables false
set_option linter.unusedSimpArgs false
open Go.ChangeShapes Go.WideShapes Go.ChangeAt Go.RowKit

set_option maxHeartbeats 1000000 in
set_option maxRecDepth 100000 in
/-- bytes.IndexByte at an address. -/
theorem ib_at (b o n c : Nat) (xs : List Int) (cv : Int) (w : World) (hx : xs.length = n) (hc : ∀ i, i < n → w.cell? ⟨b, o + i, none⟩ = some (.int .u8 (xs.getD i 0))) :
    Calls Try.prog 19 #[.slice (some ⟨b, o, none⟩) n c, .int .u8 cv] w fun e w' => e = .returned (.int .i64 (Lib.indexByte (Lib.bytesOf xs) (UInt8.ofNat cv.toNat))) ∧ w' = w := by
  go_enter Try.func19, Try.ntmps19
  go_wp2
  rw [run_callFunc_extern Try.func22 (by kernel_rfl) (by kernel_rfl) (by kernel_rfl) (e := Extern.BytealgIndexByte.indexByte) (by kernel_rfl), Lib.run_indexByteSlice w b o n c xs hx hc cv]
  simp only [Result.andThen]
  rw [Oper.upon_value]
  go_wp2
  go_ret
  exact ⟨rfl, rfl⟩

set_option maxHeartbeats 1000000 in
set_option maxRecDepth 100000 in
theorem ib_nil (cv : Int) (w : World) :
    Calls Try.prog 19 #[.slice none 0 0, .int .u8 cv] w fun e w' => e = .returned (.int .i64 (-1)) ∧ w' = w := by
  go_enter Try.func19, Try.ntmps19
  go_wp2
  rw [run_callFunc_extern Try.func22 (by kernel_rfl) (by kernel_rfl) (by kernel_rfl) (e := Extern.BytealgIndexByte.indexByte) (by kernel_rfl), Lib.run_indexByteNil w 0 0 cv]
  simp only [Result.andThen]
  rw [Oper.upon_value]
  go_wp2
  go_ret
  exact ⟨rfl, rfl⟩

/-- The same, its answer told. -/
theorem ib_at_none (b o n c : Nat) (xs : List Int) (cv : Int) (w : World) (hx : xs.length = n) (hc : ∀ i, i < n → w.cell? ⟨b, o + i, none⟩ = some (.int .u8 (xs.getD i 0))) (h : Lib.indexByte (Lib.bytesOf xs) (UInt8.ofNat cv.toNat) = -1) :
    Calls Try.prog 19 #[.slice (some ⟨b, o, none⟩) n c, .int .u8 cv] w fun e w' => e = .returned (.int .i64 (-1)) ∧ w' = w := by
  refine (ib_at b o n c xs cv w hx hc).mono ?_
  rintro e w' ⟨rfl, rfl⟩
  exact ⟨by rw [h], rfl⟩
theorem ib_at_some (b o n c : Nat) (xs : List Int) (cv : Int) (j : Nat) (w : World) (hx : xs.length = n) (hc : ∀ i, i < n → w.cell? ⟨b, o + i, none⟩ = some (.int .u8 (xs.getD i 0))) (h : Lib.indexByte (Lib.bytesOf xs) (UInt8.ofNat cv.toNat) = (j : Int)) :
    Calls Try.prog 19 #[.slice (some ⟨b, o, none⟩) n c, .int .u8 cv] w fun e w' => e = .returned (.int .i64 (j : Int)) ∧ w' = w := by
  refine (ib_at b o n c xs cv w hx hc).mono ?_
  rintro e w' ⟨rfl, rfl⟩
  exact ⟨by rw [h], rfl⟩

set_option maxHeartbeats 400000 in
/-- KeyLen at nil. -/
theorem keylen_nil (w : World) : Calls Try.prog 14 #[.slice none 0 0] w fun e w' => e = .returned (.tuple #[.int .i64 0, .bool false]) ∧ w' = w := by
  go_enter Try.func14, Try.ntmps14
  go_wp2_with (go_at_call 19; refine (ib_nil _ _).mono ?_; rintro e w' ⟨rfl, rfl⟩)
  go_ret2
  exact ⟨rfl, rfl⟩

set_option maxHeartbeats 400000 in
theorem keylen_nn (b o n c : Nat) (xs : List Int) (w : World) (hx : xs.length = n) (hc : ∀ i, i < n → w.cell? ⟨b, o + i, none⟩ = some (.int .u8 (xs.getD i 0)))
    (h1 : Hid (Lib.indexByte (Lib.bytesOf xs) (UInt8.ofNat (10 : Int).toNat) = -1)) (h2 : Hid (Lib.indexByte (Lib.bytesOf xs) (UInt8.ofNat (9 : Int).toNat) = -1)) :
    Calls Try.prog 14 #[.slice (some ⟨b, o, none⟩) n c] w fun e w' => e = .returned (.tuple #[.int .i64 (n : Int), .bool false]) ∧ w' = w := by
  have c1 := fun w hc => ib_at_none b o n c xs 10 w hx hc h1.out
  have c2 := fun w hc => ib_at_none b o n c xs 9 w hx hc h2.out
  go_enter Try.func14, Try.ntmps14
  go_wp2_with fail
  refine (c1 _ hc).mono ?_
  rintro e w' ⟨rfl, rfl⟩
  go_wp2_with fail
  refine (c2 _ hc).mono ?_
  rintro e w' ⟨rfl, rfl⟩
  go_wp2_with fail
  go_ret2
  exact ⟨rfl, rfl⟩

set_option maxHeartbeats 400000 in
theorem keylen_ns (b o n c t : Nat) (xs : List Int) (w : World) (hx : xs.length = n) (hc : ∀ i, i < n → w.cell? ⟨b, o + i, none⟩ = some (.int .u8 (xs.getD i 0)))
    (h1 : Hid (Lib.indexByte (Lib.bytesOf xs) (UInt8.ofNat (10 : Int).toNat) = -1)) (h2 : Hid (Lib.indexByte (Lib.bytesOf xs) (UInt8.ofNat (9 : Int).toNat) = (t : Int))) :
    Calls Try.prog 14 #[.slice (some ⟨b, o, none⟩) n c] w fun e w' => e = .returned (.tuple #[.int .i64 (t : Int), .bool true]) ∧ w' = w := by
  have c1 := fun w hc => ib_at_none b o n c xs 10 w hx hc h1.out
  have c2 := fun w hc => ib_at_some b o n c xs 9 t w hx hc h2.out
  go_enter Try.func14, Try.ntmps14
  go_wp2_with fail
  refine (c1 _ hc).mono ?_
  rintro e w' ⟨rfl, rfl⟩
  go_wp2_with fail
  refine (c2 _ hc).mono ?_
  rintro e w' ⟨rfl, rfl⟩
  go_wp2_with fail
  go_ret2
  exact ⟨rfl, rfl⟩

set_option maxHeartbeats 400000 in
theorem keylen_sn (b o n c j : Nat) (xs : List Int) (w : World) (hx : xs.length = n) (hnc : n ≤ c) (hcb : c ≤ 9223372036854775807) (hj : j < n) (hc : ∀ i, i < n → w.cell? ⟨b, o + i, none⟩ = some (.int .u8 (xs.getD i 0)))
    (h1 : Hid (Lib.indexByte (Lib.bytesOf xs) (UInt8.ofNat (10 : Int).toNat) = (j : Int))) (h2 : Hid (Lib.indexByte (Lib.bytesOf (xs.take j)) (UInt8.ofNat (9 : Int).toNat) = -1)) :
    Calls Try.prog 14 #[.slice (some ⟨b, o, none⟩) n c] w fun e w' => e = .returned (.tuple #[.int .i64 (j : Int), .bool true]) ∧ w' = w := by
  have c1 := fun w hc => ib_at_some b o n c xs 10 j w hx hc h1.out
  have hc2 : ∀ i, i < j → w.cell? ⟨b, o + i, none⟩ = some (.int .u8 ((xs.take j).getD i 0)) := fun i hi => by rw [getD_take hi]; exact hc i (by omega)
  have c2 := fun w hc => ib_at_none b o j c (xs.take j) 9 w (by simp; omega) hc h2.out
  go_enter Try.func14, Try.ntmps14
  go_wp2_with fail
  refine (c1 _ hc).mono ?_
  rintro e w' ⟨rfl, rfl⟩
  go_wp2_with fail
  refine (c2 _ hc2).mono ?_
  rintro e w' ⟨rfl, rfl⟩
  go_wp2_with fail
  go_ret2
  exact ⟨rfl, rfl⟩

set_option maxHeartbeats 400000 in
theorem keylen_ss (b o n c j t : Nat) (xs : List Int) (w : World) (hx : xs.length = n) (hnc : n ≤ c) (hcb : c ≤ 9223372036854775807) (hj : j < n) (hc : ∀ i, i < n → w.cell? ⟨b, o + i, none⟩ = some (.int .u8 (xs.getD i 0)))
    (h1 : Hid (Lib.indexByte (Lib.bytesOf xs) (UInt8.ofNat (10 : Int).toNat) = (j : Int))) (h2 : Hid (Lib.indexByte (Lib.bytesOf (xs.take j)) (UInt8.ofNat (9 : Int).toNat) = (t : Int))) :
    Calls Try.prog 14 #[.slice (some ⟨b, o, none⟩) n c] w fun e w' => e = .returned (.tuple #[.int .i64 (t : Int), .bool true]) ∧ w' = w := by
  have c1 := fun w hc => ib_at_some b o n c xs 10 j w hx hc h1.out
  have hc2 : ∀ i, i < j → w.cell? ⟨b, o + i, none⟩ = some (.int .u8 ((xs.take j).getD i 0)) := fun i hi => by rw [getD_take hi]; exact hc i (by omega)
  have c2 := fun w hc => ib_at_some b o j c (xs.take j) 9 t w (by simp; omega) hc h2.out
  go_enter Try.func14, Try.ntmps14
  go_wp2_with fail
  refine (c1 _ hc).mono ?_
  rintro e w' ⟨rfl, rfl⟩
  go_wp2_with fail
  refine (c2 _ hc2).mono ?_
  rintro e w' ⟨rfl, rfl⟩
  go_wp2_with fail
  go_ret2
  exact ⟨rfl, rfl⟩

/-- KeyLen, whole, at an address. -/
theorem keylen_at (b o n c : Nat) (xs : List Int) (w : World) (hx : xs.length = n) (hr : ∀ x ∈ xs, 0 ≤ x ∧ x < 256) (hnc : n ≤ c) (hcb : c ≤ 9223372036854775807) (hc : ∀ i, i < n → w.cell? ⟨b, o + i, none⟩ = some (.int .u8 (xs.getD i 0))) :
    Calls Try.prog 14 #[.slice (some ⟨b, o, none⟩) n c] w fun e w' => e = .returned (.tuple #[.int .i64 (kl xs : Int), .bool (decide (kl xs < n))]) ∧ w' = w := by
  subst hx
  rcases ib_cases xs 10 with h1 | ⟨j, h1⟩
  · have n1 := ib_none hr (by omega) h1
    rcases ib_cases xs 9 with h2 | ⟨t, h2⟩
    · have n2 := ib_none hr (by omega) h2
      refine (keylen_nn b o _ c xs w rfl hc h1 h2).mono ?_
      rintro e w' ⟨rfl, rfl⟩
      exact ⟨by rw [kl_none_none n1 n2]; simp, rfl⟩
    · obtain ⟨a1, a2, a3⟩ := ib_some hr (by omega) h2
      refine (keylen_ns b o _ c t xs w rfl hc h1 h2).mono ?_
      rintro e w' ⟨rfl, rfl⟩
      exact ⟨by rw [kl_none_some n1 a1 a2 a3]; simp [a1], rfl⟩
  · obtain ⟨a1, a2, a3⟩ := ib_some hr (by omega) h1
    have hr' : ∀ x ∈ xs.take j, 0 ≤ x ∧ x < 256 := fun x hx => hr x (List.mem_of_mem_take hx)
    rcases ib_cases (xs.take j) 9 with h2 | ⟨t, h2⟩
    · have n2 := ib_none hr' (by omega) h2
      refine (keylen_sn b o _ c j xs w rfl hnc hcb a1 hc h1 h2).mono ?_
      rintro e w' ⟨rfl, rfl⟩
      exact ⟨by rw [kl_some_none a1 a2 a3 n2]; simp [a1], rfl⟩
    · obtain ⟨b1, b2, b3⟩ := ib_some hr' (by omega) h2
      have : t < xs.length := by simp at b1; omega
      refine (keylen_ss b o _ c j t xs w rfl hnc hcb a1 hc h1 h2).mono ?_
      rintro e w' ⟨rfl, rfl⟩
      exact ⟨by rw [kl_some_some a1 a3 b1 b2 b3]; simp [this], rfl⟩

end Go.Proofs.Qxb6605204a
