import Derived.Test.Qxb6605204aSplit
import Derived.Test.Qxb6605204aPlain2
namespace Go.Proofs.Qxb6605204a
set_option linter.unusedVariables false
set_option linter.unusedSimpArgs false
open Go.ChangeShapes Go.WideShapes Go.ChangeAt Go.RowKit

/-- The world behind the two literals that Split lays. -/
theorem lit_below (w : World) : Below w.heap.size w ((w.alloc (.cells #[.int .u8 10] 5 (1, 2))).alloc (.cells #[.int .u8 9] 5 (1, 2))) :=
  ((Below.refl _ _).alloc (Nat.le_refl _) _).alloc (by simp) _
theorem lit_below1 (w : World) : Below w.heap.size w (w.alloc (.cells #[.int .u8 10] 5 (1, 2))) :=
  (Below.refl _ _).alloc (Nat.le_refl _) _
theorem lit_cell1 (w : World) : (w.alloc (.cells #[.int .u8 10] 5 (1, 2))).cell? ⟨w.heap.size, 0, none⟩ = some (.int .u8 10) := by
  simp only [World.cell?]
  rw [heap_alloc_new]
  rfl
theorem lit_cell2 (w : World) : ((w.alloc (.cells #[.int .u8 10] 5 (1, 2))).alloc (.cells #[.int .u8 9] 5 (1, 2))).cell? ⟨w.heap.size + 1, 0, none⟩ = some (.int .u8 9) := by
  have h := heap_alloc_new (w.alloc (.cells #[.int .u8 10] 5 (1, 2))) (.cells #[.int .u8 9] 5 (1, 2))
  have hs : (w.alloc (.cells #[.int .u8 10] 5 (1, 2))).heap.size = w.heap.size + 1 := by simp
  rw [hs] at h
  simp only [World.cell?]
  rw [h]
  rfl

/-- What Split hands back. -/
def SplitPost (w : World) (L : List Int) (q : Option Addr) (n : Nat) (e : Ending) (w' : World) : Prop :=
  ∃ v vc, e = .returned (.tuple #[.slice q (tb L) n, .slice v (L.length - (tb L + 1)) vc]) ∧ Rd w' q (tb L) (L.take (tb L)) ∧ Rd w' v (L.length - (tb L + 1)) (L.drop (tb L + 1)) ∧ Below w.heap.size w w'

theorem rd_zero (w : World) (p : Option Addr) : Rd w p 0 [] := ⟨rfl, by simp, fun h => absurd h (Nat.lt_irrefl _)⟩

theorem rd_at {w : World} {b o n : Nat} {xs : List Int} (hx : xs.length = n) (hr : ∀ x ∈ xs, 0 ≤ x ∧ x < 256) (hc : ∀ i, i < n → w.cell? ⟨b, o + i, none⟩ = some (.int .u8 (xs.getD i 0))) : Rd w (some ⟨b, o, none⟩) n xs :=
  ⟨hx, hr, fun hn => ⟨b, o, rfl, cell_lt (hc 0 hn), hc⟩⟩

/-- Split of no byte. -/
theorem split_zero (q : Option Addr) (w : World) (hq : q = none ∨ ∃ b, q = some ⟨b, 0, none⟩) : Calls Try.prog 10 #[.slice q 0 0] w (SplitPost w [] q 0) := by
  have hI : Calls Try.prog 19 #[.slice q 0 0, .int .u8 9] ((w.alloc (.cells #[.int .u8 10] 5 (1, 2))).alloc (.cells #[.int .u8 9] 5 (1, 2))) fun e w' => e = .returned (.int .i64 (-1)) ∧ w' = ((w.alloc (.cells #[.int .u8 10] 5 (1, 2))).alloc (.cells #[.int .u8 9] 5 (1, 2))) := by
    rcases hq with rfl | ⟨b, rfl⟩
    · exact ib_nil 9 _
    · exact ib_at_none b 0 0 0 [] 9 _ rfl (fun i hi => absurd hi (Nat.not_lt_zero _)) rfl
  have hC := cut_none q 0 0 (w.heap.size + 1) 0 1 9 _ (lit_cell2 w) hI
  refine (split_of q 0 0 0 0 false (fun v => True) w (trim_zero _ _ _ _ _) (hC.mono ?_)).mono ?_
  · rintro e w' ⟨rfl, rfl⟩
    exact ⟨⟨none, 0, rfl, trivial⟩, 0, rfl⟩
  · rintro e w' ⟨⟨v, vc, rfl, _⟩, hb⟩
    exact ⟨v, vc, rfl, rd_zero _ _, rd_zero _ _, hb⟩

/-- Split at an address: TrimSuffix leaves m bytes. -/
theorem split_m (b n m : Nat) (xs : List Int) (w : World) (hx : xs.length = n) (hr : ∀ x ∈ xs, 0 ≤ x ∧ x < 256) (hm : m ≤ n) (hn : n ≤ 4611686018427387904)
    (hc : ∀ i, i < n → w.cell? ⟨b, i, none⟩ = some (.int .u8 (xs.getD i 0))) (hlt : b < w.heap.size)
    (hT : Calls Try.prog 17 #[.slice (some ⟨b, 0, none⟩) n n, .slice (some ⟨w.heap.size, 0, none⟩) 1 1] (w.alloc (.cells #[.int .u8 10] 5 (1, 2))) fun e w' => e = .returned (.slice (some ⟨b, 0, none⟩) m n) ∧ w' = w.alloc (.cells #[.int .u8 10] 5 (1, 2))) :
    Calls Try.prog 10 #[.slice (some ⟨b, 0, none⟩) n n] w (SplitPost w (xs.take m) (some ⟨b, 0, none⟩) n) := by
  have hlen : (xs.take m).length = m := by simp; omega
  have hr' : ∀ x ∈ xs.take m, 0 ≤ x ∧ x < 256 := fun x hx => hr x (List.mem_of_mem_take hx)
  have hcm : ∀ {w' : World}, Below w.heap.size w w' → ∀ i, i < m → w'.cell? ⟨b, i, none⟩ = some (.int .u8 ((xs.take m).getD i 0)) := fun hb i hi => by
    rw [getD_take hi, hb.cell (p := ⟨b, i, none⟩) hlt]; exact hc i (by omega)
  have hcm0 : ∀ {w' : World}, Below w.heap.size w w' → ∀ i, i < m → w'.cell? ⟨b, 0 + i, none⟩ = some (.int .u8 ((xs.take m).getD i 0)) := fun hb i hi => by rw [Nat.zero_add]; exact hcm hb i hi
  generalize xs.take m = L at *
  rcases ib_cases L 9 with h | ⟨j, h⟩
  · have n1 := ib_none hr' (by omega) h
    have ht : tb L = m := tb_eq L m (by omega) (fun i hi => n1 i (by omega)) (fun hh => by omega)
    have hI := ib_at_none b 0 m n L 9 _ hlen (hcm0 (lit_below w)) h
    have hC := cut_none (some ⟨b, 0, none⟩) m n (w.heap.size + 1) 0 1 9 _ (lit_cell2 w) hI
    refine (split_of _ n m m 0 false (fun v => True) w hT (hC.mono ?_)).mono ?_
    · rintro e w' ⟨rfl, rfl⟩
      exact ⟨⟨none, 0, rfl, trivial⟩, 0, rfl⟩
    · rintro e w' ⟨⟨v, vc, rfl, _⟩, hb⟩
      have e1 : L.length - (tb L + 1) = 0 := by omega
      have e2 : L.drop (tb L + 1) = [] := List.drop_eq_nil_of_le (by omega)
      have e3 : L.take (tb L) = L := List.take_of_length_le (by omega)
      refine ⟨v, vc, by rw [e1, ht], ?_, ?_, hb⟩
      · rw [e3, ht]; exact rd_at hlen hr' (hcm0 hb)
      · rw [e1, e2]; exact rd_zero _ _
  · obtain ⟨a1, a2, a3⟩ := ib_some hr' (by omega) h
    rw [hlen] at a1
    have ht : tb L = j := tb_eq L j (by omega) a3 (fun _ => a2)
    have hI := ib_at_some b 0 m n L 9 j _ hlen (hcm0 (lit_below w)) h
    have hC := cut_some b 0 m n (w.heap.size + 1) 0 1 j 9 _ a1 hm hn (lit_cell2 w) hI
    refine (split_of _ n m j (m - (j + 1)) true (fun v => 0 < m - (j + 1) → v = some ⟨b, 0 + (j + 1), none⟩) w hT (hC.mono ?_)).mono ?_
    · rintro e w' ⟨⟨v, rfl, hv⟩, hd⟩
      exact ⟨⟨v, _, rfl, hv⟩, hd⟩
    · rintro e w' ⟨⟨v, vc, rfl, hv⟩, hb⟩
      refine ⟨v, vc, by rw [ht, hlen], ?_, ?_, hb⟩
      · rw [ht]
        exact rd_at (by simp; omega) (fun x hx => hr' x (List.mem_of_mem_take hx)) (fun i hi => by rw [getD_take hi]; exact hcm0 hb i (by omega))
      · rw [ht, hlen]
        refine ⟨by simp [hlen], fun x hx => hr' x (List.mem_of_mem_drop hx), fun h0 => ?_⟩
        rw [hv h0]
        exact ⟨b, 0 + (j + 1), rfl, Nat.lt_of_lt_of_le hlt hb.size, fun i hi => by rw [getD_drop, Nat.add_assoc]; exact hcm0 hb (j + 1 + i) (by omega)⟩

/-- Split of a slice of the law's own. -/
theorem split_own {B : Nat} (q : Option Addr) (n : Nat) (xs : List Int) (w : World) (hx : xs.length = n) (hr : ∀ x ∈ xs, 0 ≤ x ∧ x < 256) (hn : n ≤ 4611686018427387904) (h : Own B w q n xs) :
    Calls Try.prog 10 #[.slice q n n] w (SplitPost w (xs.take (tm xs)) q n) := by
  rcases h with ⟨rfl, rfl, rfl⟩ | ⟨b, rfl, hB, hlt, hc⟩
  · exact split_zero none w (.inl rfl)
  · cases n with
    | zero =>
      have : xs = [] := List.eq_nil_of_length_eq_zero hx
      subst this
      exact split_zero _ w (.inr ⟨b, rfl⟩)
    | succ n =>
      have hb1 := lit_below1 w
      have hl : (w.alloc (.cells #[.int .u8 10] 5 (1, 2))).cell? ⟨b, 0 + n, none⟩ = some (.int .u8 (xs.getD n 0)) := by
        rw [Nat.zero_add, hb1.cell (p := ⟨b, n, none⟩) hlt]; exact hc n (by omega)
      have hrx := hr _ (getD_mem (show n < xs.length by omega))
      by_cases h10 : xs.getD n 0 = 10
      · rw [tm_yes hx h10]
        exact split_m b (n + 1) n xs w hx hr (by omega) hn hc hlt (trim_yes b 0 n (n + 1) w.heap.size 0 1 _ 10 _ hrx (by omega) (Nat.le_refl _) (by omega) hl (lit_cell1 w) (by simpa using h10))
      · rw [tm_no hx h10]
        exact split_m b (n + 1) (n + 1) xs w hx hr (by omega) hn hc hlt (trim_no b 0 n (n + 1) w.heap.size 0 1 _ 10 _ hrx (by omega) (Nat.le_refl _) (by omega) hl (lit_cell1 w) (by simpa using h10))

end Go.Proofs.Qxb6605204a
