import Derived.WalkKit
import Derived.Below
namespace Go.Proofs.Qxb6608652aDoor
set_option linter.unusedVariables false
set_option linter.unusedSimpArgs false
open Go.RowKit
section
variable {P : Program} (w : World)

/-- WHERE AN APPEND LEAVES THE SLICE: in the block that it had, or in a new one. -/
theorem append_where (base : Nat) (t ty e : TypeId) (i : TypeInfo) (z : Value) (ht : P.underlying t = some (.slice e)) (hi : P.info? e = some i) (hz : i.zero = some z) (hsize : i.size = 1)
    (v : Value) (n : Nat) (xs : List Value) (hown : w.ownsRow base e 1 v n xs) (a : Addr) (c : Nat) (u : Value) (hnews : ∀ j x, [u][j]? = some x → w.cell? (a.add j) = some x) (h1 : ∀ x ∈ [u], x.oneCell' = true)
    (h63 : n + 1 ≤ maxLen) (hbytes : (n + 1) * i.bytes ≤ 140737488355328) {v' : Value} {w' : World} (hrun : (Builtin.append_ #[t, t] ty #[v, .slice (some a) 1 c]).run P w = .ok v' w') :
    v'.ownBlock = v.ownBlock ∨ v'.ownBlock = some w.heap.size := by
  have hsmall : n + 1 ≤ 9223372036854775807 := by simp only [maxLen] at h63; omega
  have hl : [u].length = 1 * i.size := by rw [hsize]; rfl
  rcases hown.2 with ⟨rfl, rfl⟩ | ⟨g, cap, cur, rfl, hbg, hg, hnc, hcm, hcs, htake⟩
  · have hr := run_append_nil (P := P) w t ty e i z ht hi hz a 1 c [u] hl hnews (by omega) (by omega) (by have hb := hbytes; omega)
    rw [hr] at hrun
    cases hrun
    exact .inr rfl
  · by_cases hroom : n + 1 ≤ cap
    · have hr := run_append_room (P := P) w t ty e i ht hi g n cap cur hg a 1 c [u] hl hnews h1 hroom (by rw [hsize]; simp only [List.length_cons, List.length_nil]; omega)
      rw [hr] at hrun
      cases hrun
      exact .inl rfl
    · have hr := run_append_grow (P := P) w t ty e i z ht hi hz ⟨g, 0, none⟩ n cap xs (by rw [hsize]; exact hown.1) (hown.cells (g := g) rfl) a 1 c [u] hl hnews (by omega) (by omega) (growslice_fits (by omega) hbytes)
      rw [hr] at hrun
      cases hrun
      exact .inr rfl

/-- The append of one element, for the walk, with the place where it ends. -/
theorem wpList_append_one {ops : Array Oper} {rest : List Oper} {o : Oper} {a : Act} {Q : Exit → Act → World → Prop} (hgd : o.guard = none) (s x : Operand) (t : TypeId)
    (ho : o.op = .call { callee := .builtin .append, args := #[s, x], argTypes := #[t, t] })
    (base : Nat) (e : TypeId) (i : TypeInfo) (z : Value) (bytes : Nat) (ht : P.underlying t = some (.slice e)) (hi : P.info? e = some i) (hz : i.zero = some z)
    (hsize : i.size = 1) (hby : i.bytes = bytes) (hzs : z.cells.size = 1)
    (v : Value) (n : Nat) (xs : List Value) (hs : a.eval s = v) (hown : w.ownsRow base e 1 v n xs)
    (ad : Addr) (c : Nat) (u : Value) (hx : a.eval x = .slice (some ad) 1 c) (hnews : ∀ j y, [u][j]? = some y → w.cell? (ad.add j) = some y) (h1 : ∀ y ∈ [u], y.oneCell' = true)
    (h63 : n + 1 ≤ maxLen) (hbytes : (n + 1) * bytes ≤ 140737488355328) (hbase : base ≤ w.heap.size)
    (h : ∀ v' w', w'.ownsRow base e 1 v' (n + 1) (xs ++ [u]) → w.grownBy w' v.ownBlock → (v'.ownBlock = v.ownBlock ∨ v'.ownBlock = some w.heap.size) → wpList P ops Q rest (a.put o.dst v') w') : wpList P ops Q (o :: rest) a w := by
  refine wpList_plain hgd fun K hK => ?_
  obtain ⟨v', w', hr, h2, h3, _⟩ := run_append_own (P := P) w base t o.type e i z 1 bytes ht hi hz hsize hby hzs (by decide) v n xs hown ad 1 c [u] rfl hnews h1 h63 hbytes hbase
  have h4 := append_where w base t o.type e i z ht hi hz hsize v n xs hown ad c u hnews h1 h63 (by rw [hby]; exact hbytes) hr
  unfold Oper.wp execOp
  simp only [ho, resolve, invoke, builtin, Sem.run_bind, Sem.run_pure, Result.andThen_ok, List.map_toArray, List.map_cons, List.map_nil, hs, hx, hr]
  exact hK _ _ (h v' w' h2 h3 h4)
end

/-- Two slices of the call's own share no block. -/
def Apart (a b : Value) : Prop := ∀ g, a.ownBlock = some g → b.ownBlock ≠ some g
theorem Apart.symm {a b : Value} (h : Apart a b) : Apart b a := fun g hb ha => h g ha hb
/-- a was appended to: what it shares with b. -/
theorem Apart.left {w : World} {base : Nat} {e : TypeId} {n : Nat} {xs : List Value} {a a' b : Value} (h : Apart a b) (hb : w.ownsRow base e 1 b n xs) {m : Nat} (hm : w.heap.size ≤ m) (ha : a'.ownBlock = a.ownBlock ∨ a'.ownBlock = some m) : Apart a' b := by
  intro g hg hbg
  rcases ha with ha | ha
  · exact h g (by rw [← ha]; exact hg) hbg
  · rw [ha] at hg
    cases hg
    have := (hb.lt _ hbg).2
    omega
theorem Apart.nil (b : Value) : Apart (.slice none 0 0) b := fun g h => by simp [Value.ownBlock] at h
theorem Apart.ne {a b : Value} (h : Apart a b) : b.ownBlock = none ∨ b.ownBlock ≠ a.ownBlock := by
  cases hb : b.ownBlock with
  | none => exact .inl rfl
  | some g => exact .inr fun e => h g e.symm hb

end Go.Proofs.Qxb6608652aDoor
