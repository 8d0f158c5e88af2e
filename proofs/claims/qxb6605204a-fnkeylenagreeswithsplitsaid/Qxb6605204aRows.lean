/-
  No cell of these rows narrows 'for every input' (looked for: loops, veiled, ifaces, maps, wideKeys, modest, calm, conditions, laid).
  DERIVED. THE GIVEN ROWS OF THIS SEAT. 5 by the template 'for every input the law returns true; each argument reads behind the call as it read before'; 0 by the template 'total and deterministic' (their statements: Qxb6605204aTotals.lean).
  GIVEN WITH THE SEED: the statements are not yours to turn. If you find one false, say at which input.
  Laid BY PROGRAM, IN A SANDBOX (cutbox-rows.mjs): the forced cells as the released guide's own fill.sh prints them over the translation 29fa64ff652f12b4… (all of the seat's roots in one cut). By AI agents, Wed Nov 11 2026. No macro, syntax, notation, axiom, sorry.
-/
import Derived.Test.Qxb6605204aChecked
import GoSem.Claim
import GoSem.ClaimJoined
import GoSem.ClaimMapViews
import Derived.JoinedTies
import Derived.KernelRfl
namespace Go.Proofs.Qxb6605204a
/- THE CELL 'sum', in the pinned program and in every row, IS THE sha256 OF THE DUMP (.gsa) THAT Qxb6605204aProg.lean LOADS. Nothing in Lean hashes anything: it is a label: what it is worth is what the hold of that sum in a sandbox is worth. -/
noncomputable def Try.pinned : Pinned := { name := "qxb6605204a", sum := "29fa64ff652f12b41f55c916e3dd232dbdbf42fe4b5b748719b5af42c9c1738b", checked := Try.checked }
namespace Rows
def none {H : Type} : Left H := { results := [], args := [] }

/-- 'zzlaws_pkg_record_b1.FnSplitExact': WHATEVER THE INPUT: true; the input reads as it did. -/
def fnSplitExactSpec : ChangeSpec := { name := "fnSplitExact", fn := fun _ => fun
  | [d] => { results := [.lit (.bool true)], args := [d] }
  | _ => none }
def fnSplitExactRow : OpenClaim := { program := "qxb6605204a", sum := "29fa64ff652f12b41f55c916e3dd232dbdbf42fe4b5b748719b5af42c9c1738b", func := "example.com/keyfold/keyfold/zzlaws_pkg_record_b1.FnSplitExact", spec := "fnSplitExact", inPlace := ["internal/bytealg.IndexByte", "internal/bytealg.Index"], named := ["internal/bytealg.MaxLen"], apart := false }
def FnSplitExactSaid : Prop := fnSplitExactRow.holds Try.pinned (OpenSpec.ofChange fnSplitExactSpec)

/-- ITS FALSE NEIGHBOUR: 'it returns false'. Refute it at one input. -/
def fnSplitExactWrong : ChangeSpec := { name := "fnSplitExact", fn := fun _ => fun
  | [d] => { results := [.lit (.bool false)], args := [d] }
  | _ => none }
def FnSplitExactWrongFalsely : Prop := fnSplitExactRow.holds Try.pinned (OpenSpec.ofChange fnSplitExactWrong)

/-- 'zzlaws_pkg_record_b1.FnSplitRoundTrip': WHATEVER THE INPUT: true; the input reads as it did. -/
def fnSplitRoundTripSpec : ChangeSpec := { name := "fnSplitRoundTrip", fn := fun _ => fun
  | [d1, d2] => { results := [.lit (.bool true)], args := [d1, d2] }
  | _ => none }
def fnSplitRoundTripRow : OpenClaim := { program := "qxb6605204a", sum := "29fa64ff652f12b41f55c916e3dd232dbdbf42fe4b5b748719b5af42c9c1738b", func := "example.com/keyfold/keyfold/zzlaws_pkg_record_b1.FnSplitRoundTrip", spec := "fnSplitRoundTrip", inPlace := ["internal/bytealg.IndexByte", "internal/bytealg.Index"], named := ["internal/bytealg.MaxLen"], apart := false }
def FnSplitRoundTripSaid : Prop := fnSplitRoundTripRow.holds Try.pinned (OpenSpec.ofChange fnSplitRoundTripSpec)

/-- ITS FALSE NEIGHBOUR: 'it returns false'. Refute it at one input. -/
def fnSplitRoundTripWrong : ChangeSpec := { name := "fnSplitRoundTrip", fn := fun _ => fun
  | [d1, d2] => { results := [.lit (.bool false)], args := [d1, d2] }
  | _ => none }
def FnSplitRoundTripWrongFalsely : Prop := fnSplitRoundTripRow.holds Try.pinned (OpenSpec.ofChange fnSplitRoundTripWrong)

/-- 'zzlaws_pkg_record_b1.FnKeyLenExact': WHATEVER THE INPUT: true; the input reads as it did. -/
def fnKeyLenExactSpec : ChangeSpec := { name := "fnKeyLenExact", fn := fun _ => fun
  | [d] => { results := [.lit (.bool true)], args := [d] }
  | _ => none }
def fnKeyLenExactRow : OpenClaim := { program := "qxb6605204a", sum := "29fa64ff652f12b41f55c916e3dd232dbdbf42fe4b5b748719b5af42c9c1738b", func := "example.com/keyfold/keyfold/zzlaws_pkg_record_b1.FnKeyLenExact", spec := "fnKeyLenExact", inPlace := ["internal/bytealg.IndexByte"], apart := false }
def FnKeyLenExactSaid : Prop := fnKeyLenExactRow.holds Try.pinned (OpenSpec.ofChange fnKeyLenExactSpec)

/-- ITS FALSE NEIGHBOUR: 'it returns false'. Refute it at one input. -/
def fnKeyLenExactWrong : ChangeSpec := { name := "fnKeyLenExact", fn := fun _ => fun
  | [d] => { results := [.lit (.bool false)], args := [d] }
  | _ => none }
def FnKeyLenExactWrongFalsely : Prop := fnKeyLenExactRow.holds Try.pinned (OpenSpec.ofChange fnKeyLenExactWrong)

/-- 'zzlaws_pkg_record_b1.FnKeyLenChunked': WHATEVER THE INPUT: true; the input reads as it did. -/
def fnKeyLenChunkedSpec : ChangeSpec := { name := "fnKeyLenChunked", fn := fun _ => fun
  | [d1, d2] => { results := [.lit (.bool true)], args := [d1, d2] }
  | _ => none }
def fnKeyLenChunkedRow : OpenClaim := { program := "qxb6605204a", sum := "29fa64ff652f12b41f55c916e3dd232dbdbf42fe4b5b748719b5af42c9c1738b", func := "example.com/keyfold/keyfold/zzlaws_pkg_record_b1.FnKeyLenChunked", spec := "fnKeyLenChunked", inPlace := ["internal/bytealg.IndexByte"], apart := false }
def FnKeyLenChunkedSaid : Prop := fnKeyLenChunkedRow.holds Try.pinned (OpenSpec.ofChange fnKeyLenChunkedSpec)

/-- ITS FALSE NEIGHBOUR: 'it returns false'. Refute it at one input. -/
def fnKeyLenChunkedWrong : ChangeSpec := { name := "fnKeyLenChunked", fn := fun _ => fun
  | [d1, d2] => { results := [.lit (.bool false)], args := [d1, d2] }
  | _ => none }
def FnKeyLenChunkedWrongFalsely : Prop := fnKeyLenChunkedRow.holds Try.pinned (OpenSpec.ofChange fnKeyLenChunkedWrong)

/-- 'zzlaws_pkg_record_b1.FnKeyLenAgreesWithSplit': WHATEVER THE INPUT: true; the input reads as it did. -/
def fnKeyLenAgreesWithSplitSpec : ChangeSpec := { name := "fnKeyLenAgreesWithSplit", fn := fun _ => fun
  | [d] => { results := [.lit (.bool true)], args := [d] }
  | _ => none }
def fnKeyLenAgreesWithSplitRow : OpenClaim := { program := "qxb6605204a", sum := "29fa64ff652f12b41f55c916e3dd232dbdbf42fe4b5b748719b5af42c9c1738b", func := "example.com/keyfold/keyfold/zzlaws_pkg_record_b1.FnKeyLenAgreesWithSplit", spec := "fnKeyLenAgreesWithSplit", inPlace := ["internal/bytealg.IndexByte", "internal/bytealg.Index"], named := ["internal/bytealg.MaxLen"], apart := false }
def FnKeyLenAgreesWithSplitSaid : Prop := fnKeyLenAgreesWithSplitRow.holds Try.pinned (OpenSpec.ofChange fnKeyLenAgreesWithSplitSpec)

/-- ITS FALSE NEIGHBOUR: 'it returns false'. Refute it at one input. -/
def fnKeyLenAgreesWithSplitWrong : ChangeSpec := { name := "fnKeyLenAgreesWithSplit", fn := fun _ => fun
  | [d] => { results := [.lit (.bool false)], args := [d] }
  | _ => none }
def FnKeyLenAgreesWithSplitWrongFalsely : Prop := fnKeyLenAgreesWithSplitRow.holds Try.pinned (OpenSpec.ofChange fnKeyLenAgreesWithSplitWrong)

end Rows
end Go.Proofs.Qxb6605204a
