import Derived.Test.Qxb6608652aDoorZz
namespace Go.Proofs.Qxb6608652aDoor
set_option linter.unusedVariables false
set_option linter.unusedSimpArgs false
open Go.ChangeShapes Go.WideShapes Go.ChangeAt Go.RowKit

theorem Tryd.info3 : (Tryd.prog.info? 3).map (fun i => (i.zero, i.size, i.bytes)) = some (some (.int .i64 0), 1, 8) := by kernel_rfl

theorem ws_cases {z : Int} (h : ws z = true) : z = 32 ∨ z = 9 ∨ z = 13 ∨ z = 10 := by simpa [ws, or_assoc] using h
theorem ws_not {z : Int} (h : ws z = false) : z ≠ 32 ∧ z ≠ 9 ∧ z ≠ 13 ∧ z ≠ 10 := by simpa [ws, and_assoc] using h

set_option maxHeartbeats 1000000 in
/-- zzjoIsWS. -/
theorem isws_any (z : Int) (w : World) : Calls Tryd.prog 10 #[.int .u8 z] w fun e w' => e = .returned (.bool (ws z)) ∧ w' = w := by
  by_cases h : ws z = true
  · rw [h]
    rcases ws_cases h with rfl | rfl | rfl | rfl
    all_goals
      clear h
      go_enter Tryd.func10, Tryd.ntmps10
      go_wp2
      go_ret
      exact ⟨rfl, rfl⟩
  · have hf : ws z = false := by simpa using h
    rw [hf]
    obtain ⟨h1, h2, h3, h4⟩ := ws_not hf
    have e1 : (z == 32) = false := by simpa using h1
    have e2 : (z == 9) = false := by simpa using h2
    have e3 : (z == 13) = false := by simpa using h3
    have e4 : (z == 10) = false := by simpa using h4
    clear h hf h1 h2 h3 h4
    go_enter Tryd.func10, Tryd.ntmps10
    go_wp2
    go_ret
    exact ⟨rfl, rfl⟩

set_option maxHeartbeats 1000000 in
/-- zzjoFollows. -/
theorem zfollows_any (z : Int) (w : World) : Calls Tryd.prog 11 #[.int .u8 z] w fun e w' => e = .returned (.bool (fol z)) ∧ w' = w := by
  have hA := fun w => isws_any z w
  by_cases hw : ws z = true
  · have hf : fol z = true := by simp [fol, hw]
    rw [hf]
    rw [hw] at hA
    clear hf hw
    go_enter Tryd.func11, Tryd.ntmps11
    go_wp2_with (go_at_call 10; refine (hA _).mono ?_; rintro e w' ⟨rfl, rfl⟩)
    go_ret
    exact ⟨rfl, rfl⟩
  · have hwf : ws z = false := by simpa using hw
    rw [hwf] at hA
    by_cases h : z = 44 ∨ z = 58 ∨ z = 93 ∨ z = 125
    · have hf : fol z = true := by simp only [fol, Bool.or_eq_true, beq_iff_eq]; omega
      rw [hf]
      clear hf hw hwf
      rcases h with rfl | rfl | rfl | rfl
      all_goals
        go_enter Tryd.func11, Tryd.ntmps11
        go_wp2_with (go_at_call 10; refine (hA _).mono ?_; rintro e w' ⟨rfl, rfl⟩)
        go_ret
        exact ⟨rfl, rfl⟩
    · have h1 : z ≠ 44 ∧ z ≠ 58 ∧ z ≠ 93 ∧ z ≠ 125 := by omega
      have e1 : (z == 44) = false := by simpa using h1.1
      have e2 : (z == 58) = false := by simpa using h1.2.1
      have e3 : (z == 93) = false := by simpa using h1.2.2.1
      have e4 : (z == 125) = false := by simpa using h1.2.2.2
      have hf : fol z = false := by simp only [fol, hwf, e1, e2, e3, e4]; rfl
      rw [hf]
      clear hf hw hwf h1 h
      go_enter Tryd.func11, Tryd.ntmps11
      go_wp2_with (go_at_call 10; refine (hA _).mono ?_; rintro e w' ⟨rfl, rfl⟩)
      go_ret
      exact ⟨rfl, rfl⟩

/-! ### The model's relation -/
def c1 (F : List (Nat × Nat × Nat × Nat)) : List Value := F.map fun t => .int .i64 (t.1 : Int)
def c2 (F : List (Nat × Nat × Nat × Nat)) : List Value := F.map fun t => .int .i64 (t.2.1 : Int)
def c3 (F : List (Nat × Nat × Nat × Nat)) : List Value := F.map fun t => .int .i64 (t.2.2.1 : Int)
def c4 (F : List (Nat × Nat × Nat × Nat)) : List Value := F.map fun t => .int .i64 (t.2.2.2 : Int)

/-- Four slices of the model's own hold the fields' bounds. -/
structure Four (B : Nat) (w : World) (v1 v2 v3 v4 : Value) (us1 us2 us3 us4 : List Value) : Prop where
  o1 : w.ownsRow B 3 1 v1 us1.length us1
  o2 : w.ownsRow B 3 1 v2 us2.length us2
  o3 : w.ownsRow B 3 1 v3 us3.length us3
  o4 : w.ownsRow B 3 1 v4 us4.length us4
  a12 : Apart v1 v2
  a13 : Apart v1 v3
  a14 : Apart v1 v4
  a23 : Apart v2 v3
  a24 : Apart v2 v4
  a34 : Apart v3 v4

theorem Four.alloc {B : Nat} {w : World} {v1 v2 v3 v4 : Value} {us1 us2 us3 us4 : List Value} (h : Four B w v1 v2 v3 v4 us1 us2 us3 us4) (o : Obj) : Four B (w.alloc o) v1 v2 v3 v4 us1 us2 us3 us4 :=
  ⟨h.o1.alloc _, h.o2.alloc _, h.o3.alloc _, h.o4.alloc _, h.a12, h.a13, h.a14, h.a23, h.a24, h.a34⟩
theorem Four.start (B : Nat) (w : World) : Four B w (.slice none 0 0) (.slice none 0 0) (.slice none 0 0) (.slice none 0 0) [] [] [] [] :=
  ⟨World.ownsRow_nil _ _ _ _, World.ownsRow_nil _ _ _ _, World.ownsRow_nil _ _ _ _, World.ownsRow_nil _ _ _ _, Apart.nil _, Apart.nil _, Apart.nil _, Apart.nil _, Apart.nil _, Apart.nil _⟩

theorem Four.step1 {B : Nat} {w w1 : World} {v1 v2 v3 v4 v' s : Value} {us1 us2 us3 us4 : List Value} (h : Four B w v1 v2 v3 v4 us1 us2 us3 us4)
    (ho : w1.ownsRow B 3 1 v' (us1.length + 1) (us1 ++ [s])) (hg : w.grownBy w1 v1.ownBlock) (hp : v'.ownBlock = v1.ownBlock ∨ v'.ownBlock = some w.heap.size) :
    Four B w1 v' v2 v3 v4 (us1 ++ [s]) us2 us3 us4 :=
  ⟨own_len ho (by simp), h.o2.kept hg (h.a12).ne, h.o3.kept hg (h.a13).ne, h.o4.kept hg (h.a14).ne, (h.a12).left h.o2 (Nat.le_refl _) hp, (h.a13).left h.o3 (Nat.le_refl _) hp, (h.a14).left h.o4 (Nat.le_refl _) hp, h.a23, h.a24, h.a34⟩

theorem Four.step2 {B : Nat} {w w1 : World} {v1 v2 v3 v4 v' s : Value} {us1 us2 us3 us4 : List Value} (h : Four B w v1 v2 v3 v4 us1 us2 us3 us4)
    (ho : w1.ownsRow B 3 1 v' (us2.length + 1) (us2 ++ [s])) (hg : w.grownBy w1 v2.ownBlock) (hp : v'.ownBlock = v2.ownBlock ∨ v'.ownBlock = some w.heap.size) :
    Four B w1 v1 v' v3 v4 us1 (us2 ++ [s]) us3 us4 :=
  ⟨h.o1.kept hg (h.a12.symm).ne, own_len ho (by simp), h.o3.kept hg (h.a23).ne, h.o4.kept hg (h.a24).ne, ((h.a12).symm.left h.o1 (Nat.le_refl _) hp).symm, h.a13, h.a14, (h.a23).left h.o3 (Nat.le_refl _) hp, (h.a24).left h.o4 (Nat.le_refl _) hp, h.a34⟩

theorem Four.step3 {B : Nat} {w w1 : World} {v1 v2 v3 v4 v' s : Value} {us1 us2 us3 us4 : List Value} (h : Four B w v1 v2 v3 v4 us1 us2 us3 us4)
    (ho : w1.ownsRow B 3 1 v' (us3.length + 1) (us3 ++ [s])) (hg : w.grownBy w1 v3.ownBlock) (hp : v'.ownBlock = v3.ownBlock ∨ v'.ownBlock = some w.heap.size) :
    Four B w1 v1 v2 v' v4 us1 us2 (us3 ++ [s]) us4 :=
  ⟨h.o1.kept hg (h.a13.symm).ne, h.o2.kept hg (h.a23.symm).ne, own_len ho (by simp), h.o4.kept hg (h.a34).ne, h.a12, ((h.a13).symm.left h.o1 (Nat.le_refl _) hp).symm, h.a14, ((h.a23).symm.left h.o2 (Nat.le_refl _) hp).symm, h.a24, (h.a34).left h.o4 (Nat.le_refl _) hp⟩

theorem Four.step4 {B : Nat} {w w1 : World} {v1 v2 v3 v4 v' s : Value} {us1 us2 us3 us4 : List Value} (h : Four B w v1 v2 v3 v4 us1 us2 us3 us4)
    (ho : w1.ownsRow B 3 1 v' (us4.length + 1) (us4 ++ [s])) (hg : w.grownBy w1 v4.ownBlock) (hp : v'.ownBlock = v4.ownBlock ∨ v'.ownBlock = some w.heap.size) :
    Four B w1 v1 v2 v3 v' us1 us2 us3 (us4 ++ [s]) :=
  ⟨h.o1.kept hg (h.a14.symm).ne, h.o2.kept hg (h.a24.symm).ne, h.o3.kept hg (h.a34.symm).ne, own_len ho (by simp), h.a12, h.a13, ((h.a14).symm.left h.o1 (Nat.le_refl _) hp).symm, h.a23, ((h.a24).symm.left h.o2 (Nat.le_refl _) hp).symm, ((h.a34).symm.left h.o3 (Nat.le_refl _) hp).symm⟩

/-- The relation at the head of the model's loop. -/
structure MR (xs : List Int) (w wr : World) (v1 v2 v3 v4 : Value) (st k lv a b v : Nat) (e i : Bool) (F : List (Nat × Nat × Nat × Nat)) : Prop where
  eq : total xs = run (xs.drop k) k st e i lv a b v F
  four : Four w.heap.size wr v1 v2 v3 v4 (c1 F) (c2 F) (c3 F) (c4 F)
  hk : k ≤ xs.length
  st10 : st ≤ 10
  lvk : lv ≤ k
  lv1 : st = 6 → 1 ≤ lv
  len : F.length ≤ 2 * k + 1
  len8 : st ≠ 8 → F.length ≤ 2 * k
  bel : Below w.heap.size w wr

theorem run_done (l : List Int) (p : Nat) (e i : Bool) (lv a b v : Nat) (F : List (Nat × Nat × Nat × Nat)) : run l p 10 e i lv a b v F = (F, false) := by cases l <;> rfl

end Go.Proofs.Qxb6608652aDoor
