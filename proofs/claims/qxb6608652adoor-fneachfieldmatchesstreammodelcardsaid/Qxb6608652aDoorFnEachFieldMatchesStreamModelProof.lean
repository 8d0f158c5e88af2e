/-
  The proof of the given card: the row by the walks imported, the card by the builder's one call.
-/
import Derived.Test.Qxb6608652aDoorTop2
import Derived.Test.Qxb6608652aDoorMod3
import Derived.Test.Qxb6608652aDoorRows
import Derived.Test.Qxb6608652aDoorTie
import Derived.Test.Qxb6608652aDoorCards
import Derived.ChangeSame
import Derived.ChangeVars
import Derived.JoinedOf
import Derived.RowKit
import Derived.RowKitTokens
import Derived.LaidLaws
import Derived.LaidHandle
import Derived.MakeChecks
import Derived.Stop.LaidErr
import Derived.Stop.ErrReads
import Derived.Stop.Joined
import Derived.ProofKit
import Derived.OpenShut
import Derived.SevenTiedAt
namespace Go.Proofs.Qxb6608652aDoor.fnEachFieldMatchesStreamModel
open Go.ChangeShapes Go.WideShapes Go.ChangeAt Go.RowKit
set_option linter.unusedVariables false
set_option linter.unusedSimpArgs false

theorem own : ownKnob Tryd.prog.godebug = none := by kernel_rfl
theorem laidOut : laidOutB Tryd.prog = true := by kernel_rfl
/-- The listed variable's name: the given row's own. -/
abbrev nameE : String := Rows.fnEachFieldMatchesStreamModelSpec.vars.headD ""
theorem gE : Tryd.prog.globalNamed nameE = some 0 := by kernel_rfl
theorem gT : (Tryd.prog.globals[0]?).map (·.type) = some 32 := by kernel_rfl
theorem cells44 : Tryd.prog.cellsOf 44 = 1 := by kernel_rfl
theorem cells9 : Tryd.prog.cellsOf 9 = 1 := by kernel_rfl

/-- WHAT THE WALK IS TOLD OF A SLICE OF INTEGERS THAT CAME IN. -/
def IsRow (k : IntKind) (w : World) (a : Option Addr) (len cap : Nat) (zs : List Int) : Prop :=
  (a = none ∧ len = 0 ∧ cap = 0 ∧ zs = []) ∨
  ∃ x, a = some x ∧ len ≤ cap ∧ cap ≤ maxLen ∧ zs.length = cap ∧ (∀ i, i < zs.length → w.cell? (x.add i) = some (.int k (zs.getD i 0))) ∧ ∀ n ∈ zs, (Lit.int k n).wf = true

theorem walk (a0 : Option Addr) (len0 cap0 : Nat) (z0 : List Int) (w : World) (w0 : IsRow .u8 w a0 len0 cap0 z0) (ea : Addr) (hE : w.cell? ⟨0, 0, none⟩ = some (EM ea)) :
    Calls Tryd.prog 3 #[.slice a0 len0 cap0] w fun e w' => e = .returned (.bool true) ∧ Below w.heap.size w w' := by
  rcases w0 with ⟨rfl, rfl, rfl, rfl⟩ | ⟨x, rfl, hlc, hcm, hzl, hcell, hwf⟩
  · exact top_nil w
  · by_cases hn : len0 ≤ 1048576
    · have hl : (z0.take len0).length = len0 := by simp; omega
      refine top_some (fun b n xs w h1 h2 => model_any b n xs w h1 h2) x len0 cap0 (z0.take len0) w ea hE (cell_lt hE) hl hn (fun z hz => ?_) (fun j v hj => ?_)
      · have := hwf z (List.mem_of_mem_take hz)
        have h2 : 0 ≤ z ∧ z ≤ 255 := by simpa [Lit.wf, IntKind.min, IntKind.max, IntKind.signed, IntKind.bits] using this
        omega
      · rw [List.getElem?_map] at hj
        obtain ⟨z, hz, rfl⟩ := Option.map_eq_some_iff.1 hj
        have hj2 : j < (z0.take len0).length := (List.getElem?_eq_some_iff.1 hz).1
        have hj3 : j < z0.length := by simp at hj2; omega
        rw [hcell j hj3]
        have : z0[j]? = some z := by
          rw [List.getElem?_take] at hz
          split at hz
          · exact hz
          · cases hz
        simp [List.getD, this]
    · refine (top_big (some x) len0 cap0 w (by omega) (by unfold maxLen at hcm; omega)).mono ?_
      rintro e w' ⟨rfl, rfl⟩
      exact ⟨rfl, Below.refl _ _⟩

theorem var_below {W W' : World} {n : String} {g : Nat} {cs : Array Value} (hg : Tryd.prog.globalNamed n = some g) (h : W.var? Tryd.prog n = some cs) (hlt : g < W.heap.size) (hb : Below W.heap.size W W') : W'.var? Tryd.prog n = some cs := by
  unfold World.var? at h ⊢
  simp only [hg, Option.bind_some] at h ⊢
  rw [hb.block g hlt]
  exact h

set_option maxRecDepth 100000 in
theorem met (os : Os) (args : Array Value) : laidMetH Tryd.prog Rows.fnEachFieldMatchesStreamModelRow.laid (({ (World.holding Tryd.prog os ⟨#[.cells #[.string { data := #[110, 111, 116, 32, 118, 97, 108, 105, 100, 32, 74, 83, 79, 78] }] 44], #[], []⟩) with heap := (World.holding Tryd.prog os ⟨#[.cells #[.string { data := #[110, 111, 116, 32, 118, 97, 108, 105, 100, 32, 74, 83, 79, 78] }] 44], #[], []⟩).heap.modify 0 fun | .cells _ t frozen => .cells #[.iface 42 (.pointer (some ⟨(World.holding Tryd.prog default ⟨#[], #[], []⟩).heap.size, 0, none⟩))] t frozen | o => o } : World).forCall (fun _ _ => 0) ⟨#[], args, []⟩).memory := by
  rw [MakeChecks.laidMetH_plain _ _ _ (by kernel_rfl)]
  exact laidMet_of_run (ps := [.cell 0 0, .cell (World.holding Tryd.prog default ⟨#[], #[], []⟩).heap.size 0]) 8 (by kernel_rfl) (by kernel_rfl) (by kernel_rfl)

set_option maxRecDepth 100000 in
theorem lifted (os : Os) (started : os.Started) (H : Type) (enc : TypeId × Value → H) :
    ReturnsInHanded {} Tryd.checked os 3 .any (fun w args => (Rows.fnEachFieldMatchesStreamModelSpec.pre enc Tryd.prog Tryd.f3 Rows.fnEachFieldMatchesStreamModelRow.domain false w args ∧ laidMetH Tryd.prog Rows.fnEachFieldMatchesStreamModelRow.laid w) ∧ sizedMet enc Tryd.prog Tryd.f3 (OpenSpec.ofChange Rows.fnEachFieldMatchesStreamModelSpec) false w args)
      (Rows.fnEachFieldMatchesStreamModelSpec.post enc Tryd.prog Tryd.f3 false true false false) := by
  refine returnsInHanded_of_change_and (C := Tryd.checked) (X := fun w _ => laidMetH Tryd.prog Rows.fnEachFieldMatchesStreamModelRow.laid w) (fun _ _ _ hh h => h.of_heap hh) own started (by kernel_rfl) Tryd.func3
    (ChangeSpec.witness_at (enc := enc) (C := Tryd.checked) (os := os) (X := fun w _ => laidMetH Tryd.prog Rows.fnEachFieldMatchesStreamModelRow.laid w) false ({ (World.holding Tryd.prog os ⟨#[.cells #[.string { data := #[110, 111, 116, 32, 118, 97, 108, 105, 100, 32, 74, 83, 79, 78] }] 44], #[], []⟩) with heap := (World.holding Tryd.prog os ⟨#[.cells #[.string { data := #[110, 111, 116, 32, 118, 97, 108, 105, 100, 32, 74, 83, 79, 78] }] 44], #[], []⟩).heap.modify 0 fun | .cells _ t frozen => .cells #[.iface 42 (.pointer (some ⟨(World.holding Tryd.prog default ⟨#[], #[], []⟩).heap.size, 0, none⟩))] t frozen | o => o } : World) #[.slice none 0 0] 8 rfl (by kernel_rfl) (by kernel_rfl) (by kernel_rfl) (by kernel_rfl) (by kernel_rfl) (met os _)) ?_
  intro W base args ds gs before hval0 hW _ _ hL0 _
  have hL : laidMetH Tryd.prog Rows.fnEachFieldMatchesStreamModelRow.laid W := hL0
  rw [MakeChecks.laidMetH_plain _ _ _ (by kernel_rfl)] at hL
  have hval : ∀ (j : Nat) t v, Tryd.f3.params[j]? = some t → args[j]? = some v → Value.okWide Tryd.prog W .any base t v := hval0
  have hW' := hW
  obtain ⟨p, q, hA0, hV0, rfl, hfz, hnd⟩ := hW
  have hA : DataW.TrodAll enc Tryd.prog W 0 (fun _ => true) true Tryd.f3.params.toList args.toList ds p := hA0
  have hV : DataW.TrodVars enc Tryd.prog W (fun _ => true) [nameE] gs q := hV0
  rw [Tryd.params3] at hA hval
  obtain ⟨v0, vs0, d0, ds0, p0, q0, hargs, rfl, rfl, h0, r0⟩ := trodAll_cons hA
  obtain ⟨rfl, rfl, rfl⟩ := trodAll_nil r0
  obtain rfl : args = #[v0] := by cases args; simp_all
  obtain ⟨ea, s0, hv, _, _, _⟩ := laid_sentinel hL gE gT Tryd.underlying32 (fun u h => typeName_ptr_named (nm := "errors.errorString") (by kernel_rfl) (by kernel_rfl) (by decide) u (h.trans (congrArg some (by decide)))) Tryd.underlying42 Tryd.underlying44 rfl rfl Tryd.underlying9 cells44 cells9
  obtain ⟨rfl, rfl⟩ := hV.unique (vars_read1 enc gE gT Tryd.underlying32 hv trivial _)
  have hgE : W.cell? ⟨0, 0, none⟩ = some (EM ea) := by simpa using World.var?_cell gE hv 0
  obtain ⟨a0, len0, cap0, rfl⟩ := okWide_slice Tryd.underlying22 (hval 0 22 v0 rfl rfl)
  have k0 := h0
  have lt0 : ∀ x ∈ p0, x.block < W.heap.size := by obtain ⟨m, hm⟩ := k0; exact DataW.trod_lt m _ _ _ hm
  obtain ⟨z0, w0⟩ : ∃ zs, IsRow .u8 W a0 len0 cap0 zs := by
    obtain ⟨fuel, hf⟩ := h0
    rcases open_ints Tryd.underlying22 Tryd.underlying5 (by kernel_rfl) hf with ⟨hcs, _⟩ | ⟨x, l, c, zs, hcs, _, hl, hm, hz, _, hcell, hwz⟩
    · simp [Value.cells] at hcs
      obtain ⟨rfl, rfl, rfl⟩ := hcs
      exact ⟨[], .inl ⟨rfl, rfl, rfl, rfl⟩⟩
    · simp [Value.cells] at hcs
      obtain ⟨rfl, rfl, rfl⟩ := hcs
      exact ⟨zs, .inr ⟨_, rfl, hl, hm, by simpa using hz, hcell, hwz⟩⟩
  clear hA0 hval0 hV0
  refine (walk a0 len0 cap0 z0 W w0 ea hgE).mono fun e W' ⟨he, bel⟩ => ?_
  subst he
  have hv' := var_below gE hv (cell_lt hgE) bel
  exact ⟨_, rfl, _, _, _, [], _, [.cell 0 0], hW', trodAll_mk1 (shut_bool Tryd.underlying4 _), (trodAll_cons_mk (Below.trod laidOut (by kernel_rfl) (of_decide_eq_true (by kernel_rfl)) k0 bel lt0) trodAll_mk0), vars_read1 enc gE gT Tryd.underlying32 hv' trivial _, bel.frame _, fun h => by cases h⟩

/-- The row. -/
theorem row_holds : Rows.FnEachFieldMatchesStreamModelSaid :=
  OpenClaim.holds_of_wide 3 Tryd.f3 rfl rfl rfl rfl rfl rfl rfl ⟨rfl, rfl, rfl, rfl, rfl⟩ rfl rfl rfl rfl rfl (by kernel_rfl) Tryd.func3 (by kernel_rfl)
    (of_decide_eq_true (by kernel_rfl)) (by unfold Func.isWrapper; first | (rw [if_pos (by decide +kernel)]; kernel_rfl) | (rw [if_neg (by decide +kernel)]; exact ⟨rfl, rfl⟩))
    (fun os started H enc _ => lifted os started H enc)

/-- ████ THE STATEMENT ████ -/
theorem proved : Rows.FnEachFieldMatchesStreamModelCardSaid :=
  Claim7.holds_tied_plain_at .later [] [.sentinel] true (true, "a88e370c3fd900cea2b7076a7407c84c8690e616d555801ead19f60bd90f3f42") false row_holds (fun _ h => by cases h) (by kernel_rfl) (fun _ h => by cases h) fnEachFieldMatchesStreamModel_row_tie rfl ⟨rfl, rfl⟩ (by kernel_rfl) rfl
    (fun f fn hf hfn => by
      obtain rfl : f = 3 := Option.some.inj ((show Tryd.prog.funcNamed Rows.fnEachFieldMatchesStreamModelRow.func = some 3 by kernel_rfl).symm.trans hf) |>.symm
      obtain rfl : fn = Tryd.f3 := (Option.some.inj (Tryd.func3.symm.trans hfn)).symm
      exact ⟨by kernel_rfl, fun j t ht => by
        rw [Tryd.params3] at ht
        have hm : t ∈ [22] := by simpa using Array.mem_of_getElem? ht
        have hall : ([22].all fun u => !Tryd.prog.wantsStandIn u) = true := by kernel_rfl
        exact (show Tryd.prog.wantsStandIn t = false by simpa using List.all_eq_true.1 hall t hm)⟩)
    (by kernel_rfl)
#print axioms proved
end Go.Proofs.Qxb6608652aDoor.fnEachFieldMatchesStreamModel
