/-
  DERIVED. GIVEN WITH THE SEED: THE CARDS: each row of Qxb6608652aDoorRows.lean that lists a variable, with what it lists TIED to the program's text (the seventh form; the later family's looks); each row that meets fmt, with fmt's text TOLD by the authors' own Lean function (tested against real Go, not proved from fmt's source: count such statements apart). THE CARD IS WHAT COUNTS. Prove the row's statement (the work); the ties are given (Qxb6608652aDoorTie.lean); close each card by the builder's one call (the guide's Derived/Test/ToyasCard.lean, 'card_holds'). Laid BY PROGRAM, IN A SANDBOX (cutbox-door.mjs). By AI agents, Wed Nov 11 2026. No macro, syntax, notation, axiom, sorry.
-/
import Derived.Test.Qxb6608652aDoorRows
import GoSem.ClaimSeven
namespace Go.Proofs.Qxb6608652aDoor
namespace Rows

/-- THE TIED CARD OF 'zzlaws_internal_jsonobject_b1.FnEachFieldMatchesStreamModel'. -/
def fnEachFieldMatchesStreamModelCard : Claim7 := { stood := { row := fnEachFieldMatchesStreamModelRow, standIns := [], harness := (true, "a88e370c3fd900cea2b7076a7407c84c8690e616d555801ead19f60bd90f3f42"), looks := false }, kinds := [], alts := [], laidByText := true, laidKinds := [.sentinel], laidTests := true, laidLooks := .later }
def FnEachFieldMatchesStreamModelCardSaid : Prop := Claim7.holds Tryd.pinned (.plain (OpenSpec.ofChange fnEachFieldMatchesStreamModelSpec)) fnEachFieldMatchesStreamModelCard
end Rows
end Go.Proofs.Qxb6608652aDoor
