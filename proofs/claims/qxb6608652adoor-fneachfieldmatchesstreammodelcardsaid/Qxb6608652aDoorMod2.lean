import Derived.Test.Qxb6608652aDoorMod
namespace Go.Proofs.Qxb6608652aDoor
set_option linter.unusedVariables false
set_option linter.unusedSimpArgs false
open Go.ChangeShapes Go.WideShapes Go.ChangeAt Go.RowKit

/-- What the model answers. -/
def MPost (xs : List Int) (w : World) : Ending → World → Prop := fun e w' => ∃ v1 v2 v3 v4 F fl, e = .returned (.tuple #[v1, v2, v3, v4, .bool fl]) ∧ total xs = (F, fl) ∧ Four w.heap.size w' v1 v2 v3 v4 (c1 F) (c2 F) (c3 F) (c4 F) ∧ Below w.heap.size w w'

theorem MR.next {xs : List Int} {w wr : World} {v1 v2 v3 v4 : Value} {st k lv a b v : Nat} {e i : Bool} {F : List (Nat × Nat × Nat × Nat)} (h : MR xs w wr v1 v2 v3 v4 st k lv a b v e i F) (hk : k < xs.length) {z : Int} (hd : xs.drop k = z :: xs.drop (k + 1))
    (st' lv' a' b' v' : Nat) (e' i' : Bool) (hq : run (z :: xs.drop (k + 1)) k st e i lv a b v F = run (xs.drop (k + 1)) (k + 1) st' e' i' lv' a' b' v' F) (h10 : st' ≤ 10) (hlv : lv' ≤ k + 1) (h6 : st' = 6 → 1 ≤ lv') :
    MR xs w wr v1 v2 v3 v4 st' (k + 1) lv' a' b' v' e' i' F :=
  ⟨by rw [h.eq, hd, hq], h.four, hk, h10, hlv, h6, by have := h.len; omega, fun _ => by have := h.len; omega, h.bel⟩

theorem MR.tot {xs : List Int} {w wr : World} {v1 v2 v3 v4 : Value} {st k lv a b v : Nat} {e i : Bool} {F : List (Nat × Nat × Nat × Nat)} (h : MR xs w wr v1 v2 v3 v4 st k lv a b v e i F) {z : Int} (hd : xs.drop k = z :: xs.drop (k + 1))
    {G : List (Nat × Nat × Nat × Nat)} {fl : Bool} (hq : run (z :: xs.drop (k + 1)) k st e i lv a b v F = (G, fl)) : total xs = (G, fl) := by rw [h.eq, hd, hq]

theorem MR.snoc {xs : List Int} {w wr w4 : World} {v1 v2 v3 v4 v1' v2' v3' v4' : Value} {st k lv a b v : Nat} {e i : Bool} {F : List (Nat × Nat × Nat × Nat)} (h : MR xs w wr v1 v2 v3 v4 st k lv a b v e i F) {k' r : Nat} {lv' : Nat} {e' i' : Bool}
    (hf : Four w.heap.size w4 v1' v2' v3' v4' (c1 F ++ [.int .i64 (a : Int)]) (c2 F ++ [.int .i64 (b : Int)]) (c3 F ++ [.int .i64 (v : Int)]) (c4 F ++ [.int .i64 (r : Int)])) (hb : Below w.heap.size w w4)
    (hq : total xs = run (xs.drop k') k' 8 e' i' lv' a b v (F ++ [(a, b, v, r)])) (h8 : st ≠ 8) (hk : k ≤ k') (hk' : k' ≤ xs.length) (hlv : lv' ≤ k') : MR xs w w4 v1' v2' v3' v4' 8 k' lv' a b v e' i' (F ++ [(a, b, v, r)]) := by
  refine ⟨hq, ?_, hk', by decide, hlv, fun h => absurd h (by decide), ?_, fun h => absurd rfl h, hb⟩
  · simpa [c1, c2, c3, c4] using hf
  · have := h.len8 h8
    simp only [List.length_append, List.length_cons, List.length_nil]
    omega

theorem Four.app1 {w wr w1 : World} {v1 v2 v3 v4 v' s : Value} {us1 us2 us3 us4 : List Value} {o : Obj} (h : Four w.heap.size wr v1 v2 v3 v4 us1 us2 us3 us4) (hb : Below w.heap.size w wr)
    (ho : w1.ownsRow w.heap.size 3 1 v' (us1.length + 1) (us1 ++ [s])) (hg : (wr.alloc o).grownBy w1 v1.ownBlock) (hp : v'.ownBlock = v1.ownBlock ∨ v'.ownBlock = some (wr.heap.size + 1)) :
    Four w.heap.size w1 v' v2 v3 v4 (us1 ++ [s]) us2 us3 us4 ∧ Below w.heap.size w w1 :=
  ⟨(h.alloc o).step1 ho hg (by simpa using hp), (hb.alloc hb.size o).grown hg (by have := hb.size; simp; omega) (fun k e => (h.o1.lt k e).1)⟩
theorem Four.app2 {w wr w1 : World} {v1 v2 v3 v4 v' s : Value} {us1 us2 us3 us4 : List Value} {o : Obj} (h : Four w.heap.size wr v1 v2 v3 v4 us1 us2 us3 us4) (hb : Below w.heap.size w wr)
    (ho : w1.ownsRow w.heap.size 3 1 v' (us2.length + 1) (us2 ++ [s])) (hg : (wr.alloc o).grownBy w1 v2.ownBlock) (hp : v'.ownBlock = v2.ownBlock ∨ v'.ownBlock = some (wr.heap.size + 1)) :
    Four w.heap.size w1 v1 v' v3 v4 us1 (us2 ++ [s]) us3 us4 ∧ Below w.heap.size w w1 :=
  ⟨(h.alloc o).step2 ho hg (by simpa using hp), (hb.alloc hb.size o).grown hg (by have := hb.size; simp; omega) (fun k e => (h.o2.lt k e).1)⟩
theorem Four.app3 {w wr w1 : World} {v1 v2 v3 v4 v' s : Value} {us1 us2 us3 us4 : List Value} {o : Obj} (h : Four w.heap.size wr v1 v2 v3 v4 us1 us2 us3 us4) (hb : Below w.heap.size w wr)
    (ho : w1.ownsRow w.heap.size 3 1 v' (us3.length + 1) (us3 ++ [s])) (hg : (wr.alloc o).grownBy w1 v3.ownBlock) (hp : v'.ownBlock = v3.ownBlock ∨ v'.ownBlock = some (wr.heap.size + 1)) :
    Four w.heap.size w1 v1 v2 v' v4 us1 us2 (us3 ++ [s]) us4 ∧ Below w.heap.size w w1 :=
  ⟨(h.alloc o).step3 ho hg (by simpa using hp), (hb.alloc hb.size o).grown hg (by have := hb.size; simp; omega) (fun k e => (h.o3.lt k e).1)⟩
theorem Four.app4 {w wr w1 : World} {v1 v2 v3 v4 v' s : Value} {us1 us2 us3 us4 : List Value} {o : Obj} (h : Four w.heap.size wr v1 v2 v3 v4 us1 us2 us3 us4) (hb : Below w.heap.size w wr)
    (ho : w1.ownsRow w.heap.size 3 1 v' (us4.length + 1) (us4 ++ [s])) (hg : (wr.alloc o).grownBy w1 v4.ownBlock) (hp : v'.ownBlock = v4.ownBlock ∨ v'.ownBlock = some (wr.heap.size + 1)) :
    Four w.heap.size w1 v1 v2 v3 v' us1 us2 us3 (us4 ++ [s]) ∧ Below w.heap.size w w1 :=
  ⟨(h.alloc o).step4 ho hg (by simpa using hp), (hb.alloc hb.size o).grown hg (by have := hb.size; simp; omega) (fun k e => (h.o4.lt k e).1)⟩

theorem one_int (z : Int) : ∀ y ∈ [Value.int .i64 z], y.oneCell' = true := fun y hy => by simp only [List.mem_cons, List.not_mem_nil, or_false] at hy; subst hy; rfl

theorem c1_len (F : List (Nat × Nat × Nat × Nat)) : (c1 F).length = F.length := by simp [c1]
theorem c2_len (F : List (Nat × Nat × Nat × Nat)) : (c2 F).length = F.length := by simp [c2]
theorem c3_len (F : List (Nat × Nat × Nat × Nat)) : (c3 F).length = F.length := by simp [c3]
theorem c4_len (F : List (Nat × Nat × Nat × Nat)) : (c4 F).length = F.length := by simp [c4]

end Go.Proofs.Qxb6608652aDoor
