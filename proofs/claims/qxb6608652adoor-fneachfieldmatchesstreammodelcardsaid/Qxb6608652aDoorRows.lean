/-
  NARROWER THAN 'FOR EVERY INPUT', by the rows' own cells (each row's printed sentence says how): FnEachFieldMatchesStreamModel: ifaces, laid.
  DERIVED. THE GIVEN ROWS OF THIS SEAT. 1 by the template 'for every input the law returns true; each argument reads behind the call as it read before'; 0 by the template 'total and deterministic' (their statements: Qxb6608652aDoorTotals.lean).
  GIVEN WITH THE SEED: the statements are not yours to turn. If you find one false, say at which input.
  Laid BY PROGRAM, IN A SANDBOX (cutbox-rows.mjs): the forced cells as the released guide's own fill.sh prints them over the translation 75511b9241b23f31… (all of the seat's roots in one cut). By AI agents, Wed Nov 11 2026. No macro, syntax, notation, axiom, sorry.
-/
import Derived.Test.Qxb6608652aDoorChecked
import GoSem.Claim
import GoSem.ClaimJoined
import GoSem.ClaimMapViews
import Derived.JoinedTies
import Derived.KernelRfl
namespace Go.Proofs.Qxb6608652aDoor
/- THE CELL 'sum', in the pinned program and in every row, IS THE sha256 OF THE DUMP (.gsa) THAT Qxb6608652aDoorProg.lean LOADS. Nothing in Lean hashes anything: it is a label: what it is worth is what the hold of that sum in a sandbox is worth. -/
noncomputable def Tryd.pinned : Pinned := { name := "qxb6608652adoor", sum := "75511b9241b23f3107895552c7a72c256200cbd9deb6e6324ff21e104a826cf2", checked := Tryd.checked }
namespace Rows
def none {H : Type} : Left H := { results := [], args := [] }

/- WHAT THE LISTED PACKAGE-LEVEL VARIABLES READ AS WHEN THE CALL BEGINS. Each datum BY PROGRAM (the guide's laid-datum.mjs) off the statement by which the dump's own 'gosem.cut.vars' lays the variable. In a bare row this is a premise. The card (Qxb6608652aDoorCards.lean) ties it to the program's text. -/
def laid_example_com_vestibule_vestibule_internal_jsonobject_errMalformed {H : Type} : DataW H := .iface "*errors.errorString" (.ptr (.agg [.lit (.string [110, 111, 116, 32, 118, 97, 108, 105, 100, 32, 74, 83, 79, 78])]))

/-- 'zzlaws_internal_jsonobject_b1.FnEachFieldMatchesStreamModel': WHATEVER THE INPUT: true; the input reads as it did. -/
def fnEachFieldMatchesStreamModelSpec : ChangeSpec := { name := "fnEachFieldMatchesStreamModel", vars := ["example.com/vestibule/vestibule/internal/jsonobject.errMalformed"], fn := fun _ => fun
  | [d, g1] => { results := [.lit (.bool true)], args := [d], vars := [g1] }
  | _ => none }
def fnEachFieldMatchesStreamModelRow : OpenClaim := { program := "qxb6608652adoor", sum := "75511b9241b23f3107895552c7a72c256200cbd9deb6e6324ff21e104a826cf2", func := "example.com/vestibule/vestibule/zzlaws_internal_jsonobject_b1.FnEachFieldMatchesStreamModel", spec := "fnEachFieldMatchesStreamModel", inPlace := ["internal/bytealg.IndexByte"], unfollowed := true, recurses := true, named := ["example.com/vestibule/vestibule/internal/jsonobject.errMalformed"], ifaces := true, apart := false, laid := [("example.com/vestibule/vestibule/internal/jsonobject.errMalformed", laid_example_com_vestibule_vestibule_internal_jsonobject_errMalformed)] }
def FnEachFieldMatchesStreamModelSaid : Prop := fnEachFieldMatchesStreamModelRow.holds Tryd.pinned (OpenSpec.ofChange fnEachFieldMatchesStreamModelSpec)

/-- ITS FALSE NEIGHBOUR: 'it returns false'. Refute it at one input. -/
def fnEachFieldMatchesStreamModelWrong : ChangeSpec := { name := "fnEachFieldMatchesStreamModel", vars := ["example.com/vestibule/vestibule/internal/jsonobject.errMalformed"], fn := fun _ => fun
  | [d, g1] => { results := [.lit (.bool false)], args := [d], vars := [g1] }
  | _ => none }
def FnEachFieldMatchesStreamModelWrongFalsely : Prop := fnEachFieldMatchesStreamModelRow.holds Tryd.pinned (OpenSpec.ofChange fnEachFieldMatchesStreamModelWrong)

end Rows
end Go.Proofs.Qxb6608652aDoor
