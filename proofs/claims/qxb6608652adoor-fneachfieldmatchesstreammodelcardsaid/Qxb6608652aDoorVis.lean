import Derived.Test.Qxb6608652aDoorSt
namespace Go.Proofs.Qxb6608652aDoor
set_option linter.unusedVariables false
set_option linter.unusedSimpArgs false
open Go.ChangeShapes Go.WideShapes Go.ChangeAt Go.RowKit

theorem cell_box {w : World} {k : Nat} {v : Value} {t : TypeId} (h : w.heap[k]? = some (.cells #[v] t (0, 0))) : w.cell? ⟨k, 0, none⟩ = some v := by
  simp only [World.cell?]; rw [h]; rfl
theorem free_box {w : World} {k : Nat} {v : Value} {t : TypeId} (h : w.heap[k]? = some (.cells #[v] t (0, 0))) : w.frozen? ⟨k, 0, none⟩ = false := by
  simp only [World.frozen?]; rw [h]; rfl
theorem news_one (w : World) (u : Value) (e : TypeId) : ∀ j x, [u][j]? = some x → (w.alloc (.cells #[u] e)).cell? ((⟨w.heap.size, 0, none⟩ : Addr).add j) = some x := by
  intro j x hj
  have h := heap_alloc_new w (.cells #[u] e)
  match j, hj with
  | 0, hj => rw [Addr.add_lit]; simp only [World.cell?]; rw [h]; simpa using hj

theorem news_two (w : World) (o : Obj) (u : Value) (e : TypeId) : ∀ j x, [u][j]? = some x → ((w.alloc o).alloc (.cells #[u] e)).cell? ((⟨w.heap.size + 1, 0, none⟩ : Addr).add j) = some x := by
  have h := news_one (w.alloc o) u e
  have hs : (w.alloc o).heap.size = w.heap.size + 1 := by simp
  rw [hs] at h
  exact h

theorem size_set (w : World) (a : Addr) (v : Value) : (w.setCell a v).heap.size = w.heap.size := by simp [World.setCell]
theorem news_set (w : World) (a : Addr) (v : Value) (u : Value) (e : TypeId) : ∀ j x, [u][j]? = some x → ((w.setCell a v).alloc (.cells #[u] e)).cell? ((⟨w.heap.size, 0, none⟩ : Addr).add j) = some x := by
  have h := news_one (w.setCell a v) u e
  rw [size_set] at h
  exact h

/-- What stays true of the box of the field behind an append of a row of type 22. -/
structure Fb (w : World) (fb : Nat) (s0 s1 s2 : Value) : Prop where
  blk : w.heap[fb]? = some (.cells #[s0, s1, s2] 35 (0, 0))
theorem Fb.c0 {w : World} {fb : Nat} {s0 s1 s2 : Value} (h : Fb w fb s0 s1 s2) : w.cell? ⟨fb, 0, none⟩ = some s0 := by simp only [World.cell?]; rw [h.blk]; rfl
theorem Fb.c1 {w : World} {fb : Nat} {s0 s1 s2 : Value} (h : Fb w fb s0 s1 s2) : w.cell? ⟨fb, 1, none⟩ = some s1 := by simp only [World.cell?]; rw [h.blk]; rfl
theorem Fb.c2 {w : World} {fb : Nat} {s0 s1 s2 : Value} (h : Fb w fb s0 s1 s2) : w.cell? ⟨fb, 2, none⟩ = some s2 := by simp only [World.cell?]; rw [h.blk]; rfl
theorem Fb.alloc {w : World} {fb : Nat} {s0 s1 s2 : Value} (h : Fb w fb s0 s1 s2) (o : Obj) : Fb (w.alloc o) fb s0 s1 s2 := ⟨by rw [heap_alloc_lt _ _ (lt_of_some h.blk)]; exact h.blk⟩
theorem Fb.grown {w w1 : World} {fb B n : Nat} {s0 s1 s2 v : Value} {us : List Value} (h : Fb w fb s0 s1 s2) (ho : w.ownsRow B 22 1 v n us) (hg : w.grownBy w1 v.ownBlock) : Fb w1 fb s0 s1 s2 := by
  refine ⟨?_⟩
  rw [hg.block fb (lt_of_some h.blk) ?_]
  · exact h.blk
  · intro e
    rcases ho.2 with ⟨hv, _⟩ | ⟨g, cap, cur, hv, _, hh, _⟩
    · rw [hv] at e; simp [Value.ownBlock] at e
    · rw [hv] at e
      simp only [Value.ownBlock, Option.some.injEq] at e
      have hb := h.blk
      rw [e, hh] at hb
      simp at hb

theorem own_shape {w : World} {B e n : Nat} {v : Value} {us : List Value} (h : w.ownsRow B e 1 v (n + 1) us) : ∃ g cap, v = .slice (some ⟨g, 0, none⟩) (n + 1) cap := by
  rcases h.2 with ⟨_, h0⟩ | ⟨g, cap, _, hv, _⟩
  · omega
  · exact ⟨g, cap, hv⟩

theorem Fb.set {w : World} {fb : Nat} {s0 s1 s2 : Value} (h : Fb w fb s0 s1 s2) {a : Addr} (ha : fb ≠ a.block) (v : Value) : Fb (w.setCell a v) fb s0 s1 s2 := ⟨by rw [heap_setCell_other w a fb v ha]; exact h.blk⟩

set_option maxHeartbeats 2000000 in
set_option maxRecDepth 100000 in
/-- The visitor of ZZeachField. -/
theorem visit_any (B : Nat) (w : World) (q0 q1 q2 : Option Addr) (n0 n1 n2 m0 m1 m2 : Nat) (v0 v1 v2 : Value) (us0 us1 us2 : List Value) (h : St B w v0 v1 v2 us0 us1 us2) (hl0 : us0.length ≤ 2097152) (hl1 : us1.length ≤ 2097152) (hl2 : us2.length ≤ 2097152) :
    Calls Tryd.prog 9 #[.agg #[.slice q0 n0 m0, .slice q1 n1 m1, .slice q2 n2 m2], .pointer (some ⟨B, 0, none⟩), .pointer (some ⟨B + 1, 0, none⟩), .pointer (some ⟨B + 2, 0, none⟩)] w fun e w' =>
      e = .returned .nilIface ∧ (∃ v0' v1' v2', St B w' v0' v1' v2' (us0 ++ [.slice q0 n0 m0]) (us1 ++ [.slice q1 n1 m1]) (us2 ++ [.slice q2 n2 m2])) ∧ Below B w w' := by
  obtain ⟨i0, hi, hz0, hz1, hz2⟩ := info_parts Tryd.info22
  generalize hs0 : Value.slice q0 n0 m0 = s0 at *
  generalize hs1 : Value.slice q1 n1 m1 = s1 at *
  generalize hs2 : Value.slice q2 n2 m2 = s2 at *
  have HS0 : Hid (∀ y ∈ [s0], y.oneCell' = true) := fun y hy => by simp only [List.mem_cons, List.not_mem_nil, or_false] at hy; subst hy; subst hs0; rfl
  have HS1 : Hid (∀ y ∈ [s1], y.oneCell' = true) := fun y hy => by simp only [List.mem_cons, List.not_mem_nil, or_false] at hy; subst hy; subst hs1; rfl
  have HS2 : Hid (∀ y ∈ [s2], y.oneCell' = true) := fun y hy => by simp only [List.mem_cons, List.not_mem_nil, or_false] at hy; subst hy; subst hs2; rfl
  have hBl := h.lt
  have hA := (h.alloc (.cells #[s0, s1, s2] 35)).alloc (.cells #[s0] 22)
  have hc0 := cell_box (h.alloc (.cells #[s0, s1, s2] 35)).b0
  have hfb : Fb (w.alloc (.cells #[s0, s1, s2] 35)) w.heap.size s0 s1 s2 := ⟨heap_alloc_new w _⟩
  have HA : Hid _ := hA
  have HFB : Hid _ := hfb
  have H : Hid _ := h
  clear hA hfb h
  subst hs0 hs1 hs2
  go_enter Tryd.func9, Tryd.ntmps9
  go_wp2_with (at_builtin; go_loud (refine wpList_append_one _ rfl (.tmp 6) (.tmp 9) 24 rfl (B + 3) 22 i0 (.slice none 0 0) 24 Tryd.underlying24 hi hz0 hz1 hz2 rfl _ _ _ rfl HA.out.o0 ⟨w.heap.size + 1, 0, none⟩ 1 _ rfl (news_two _ _ _ _) HS0.out (by unfold maxLen; omega) (by omega) (by simp; omega) ?_))
  intro v0' w1 hown1 hgrow1 hp1
  have hW0 : ((w.alloc (.cells #[.slice q0 n0 m0, .slice q1 n1 m1, .slice q2 n2 m2] 35)).alloc (.cells #[.slice q0 n0 m0] 22)).heap.size = w.heap.size + 1 + 1 := by simp
  have hS1 := St.step0 HA.out hown1 hgrow1 (by rw [hW0]; exact hp1)
  have hF1 := (HFB.out.alloc (.cells #[.slice q0 n0 m0] 22)).grown HA.out.o0 hgrow1
  have hk0 : w1.heap[B]? = some (.cells #[v0] 24 (0, 0)) := by rw [low_kept HA.out.o0 hgrow1 (by rw [hW0]; omega) (by omega)]; exact HA.out.b0
  have hk1 : w1.heap[B + 1]? = some (.cells #[v1] 24 (0, 0)) := by rw [low_kept HA.out.o0 hgrow1 (by rw [hW0]; omega) (by omega)]; exact HA.out.b1
  have hb1 : Below B w w1 := (((Below.refl B w).alloc (by omega) _).alloc (by simp; omega) _).grown hgrow1 (by rw [hW0]; omega) (fun k e => by have := (HA.out.o0.lt k e).1; omega)
  have g1 := cell_box hk0
  have g2 := free_box hk0
  have g3 := cell_box hk1
  have g4 := hF1.c1
  have hne : ¬ (w.heap.size = B) := by omega
  have hne' : ¬ (B = w.heap.size) := by omega
  have hsz1 : B + 3 ≤ w1.heap.size := by have := hb1.size; omega
  have HS1' : Hid _ := hS1
  have HF1 : Hid _ := hF1.set (a := ⟨B, 0, none⟩) (by show w.heap.size ≠ B; omega) v0'
  have HB1 : Hid _ := hb1
  obtain ⟨x0, y0, hv0⟩ := own_shape hown1
  subst hv0
  clear hown1 hgrow1 hp1 hW0 hS1 hF1 hk0 hk1 hb1 hc0 HA HFB H
  go_wp2_with (at_builtin; refine wpList_append_one _ rfl (.tmp 11) (.tmp 14) 24 rfl (B + 3) 22 i0 (.slice none 0 0) 24 Tryd.underlying24 hi hz0 hz1 hz2 rfl _ _ _ rfl (HS1'.out.alloc _).o1 ⟨w1.heap.size, 0, none⟩ 1 _ rfl (news_set _ _ _ _ _) HS1.out (by unfold maxLen; omega) (by omega) (by simp; omega) ?_)
  clear g1 g2 g3 g4
  intro v1' w2 hown2 hgrow2 hp2
  have hW1 : ((w1.setCell ⟨B, 0, none⟩ (.slice (some ⟨x0, 0, none⟩) (us0.length + 1) y0)).alloc (.cells #[.slice q1 n1 m1] 22)).heap.size = w1.heap.size + 1 := by simp [World.setCell]
  have hA1 := HS1'.out.alloc (.cells #[.slice q1 n1 m1] 22)
  have hS2 := St.step1 hA1 hown2 hgrow2 (by rw [hW1]; exact hp2)
  have hF2 := (HF1.out.alloc (.cells #[.slice q1 n1 m1] 22)).grown hA1.o1 hgrow2
  have hk1 : w2.heap[B + 1]? = some (.cells #[v1] 24 (0, 0)) := by rw [low_kept hA1.o1 hgrow2 (by rw [hW1]; omega) (by omega)]; exact hA1.b1
  have hk2 : w2.heap[B + 2]? = some (.cells #[v2] 24 (0, 0)) := by rw [low_kept hA1.o1 hgrow2 (by rw [hW1]; omega) (by omega)]; exact hA1.b2
  have hb2 : Below B w w2 := ((HB1.out.setCell (p := ⟨B, 0, none⟩) (Nat.le_refl _) _).alloc (by simp [World.setCell]; omega) _).grown hgrow2 (by rw [hW1]; omega) (fun k e => by have := (hA1.o1.lt k e).1; omega)
  have g1 := cell_box hk1
  have g2 := free_box hk1
  have g3 := cell_box hk2
  have g4 := hF2.c2
  have hne1 : ¬ (w.heap.size = B + 1) := by omega
  have hne1' : ¬ (B + 1 = w.heap.size) := by omega
  have hsz2 : B + 3 ≤ w2.heap.size := by have := hb2.size; omega
  have HS2' : Hid _ := hS2
  have HB2 : Hid _ := hb2
  obtain ⟨x1, y1, hv1⟩ := own_shape hown2
  subst hv1
  clear hown2 hgrow2 hp2 hW1 hS2 hF2 hk1 hk2 hb2 hA1 HS1' HF1 HB1
  go_wp2_with (at_builtin; refine wpList_append_one _ rfl (.tmp 16) (.tmp 19) 24 rfl (B + 3) 22 i0 (.slice none 0 0) 24 Tryd.underlying24 hi hz0 hz1 hz2 rfl _ _ _ rfl (HS2'.out.alloc _).o2 ⟨w2.heap.size, 0, none⟩ 1 _ rfl (news_set _ _ _ _ _) HS2.out (by unfold maxLen; omega) (by omega) (by simp; omega) ?_)
  clear g1 g2 g3 g4
  intro v2' w3 hown3 hgrow3 hp3
  have hW2 : ((w2.setCell ⟨B + 1, 0, none⟩ (.slice (some ⟨x1, 0, none⟩) (us1.length + 1) y1)).alloc (.cells #[.slice q2 n2 m2] 22)).heap.size = w2.heap.size + 1 := by simp [World.setCell]
  have hA2 := HS2'.out.alloc (.cells #[.slice q2 n2 m2] 22)
  have hS3 := St.step2 hA2 hown3 hgrow3 (by rw [hW2]; exact hp3)
  have hk2 : w3.heap[B + 2]? = some (.cells #[v2] 24 (0, 0)) := by rw [low_kept hA2.o2 hgrow3 (by rw [hW2]; omega) (by omega)]; exact hA2.b2
  have hb3 : Below B w w3 := ((HB2.out.setCell (p := ⟨B + 1, 0, none⟩) (by show B ≤ B + 1; omega) _).alloc (by simp [World.setCell]; omega) _).grown hgrow3 (by rw [hW2]; omega) (fun k e => by have := (hA2.o2.lt k e).1; omega)
  have g1 := cell_box hk2
  have g2 := free_box hk2
  have HS3' : Hid _ := hS3
  have HB3 : Hid _ := hb3
  obtain ⟨x2, y2, hv2⟩ := own_shape hown3
  subst hv2
  clear hown3 hgrow3 hp3 hW2 hS3 hk2 hb3 hA2 HS2' HB2
  go_wp2
  go_ret
  exact ⟨rfl, ⟨_, _, _, HS3'.out⟩, HB3.out.setCell (p := ⟨B + 2, 0, none⟩) (by show B ≤ B + 2; omega) _⟩

end Go.Proofs.Qxb6608652aDoor
