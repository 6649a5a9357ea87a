/-
  No cell of these rows narrows 'for every input' (looked for: loops, veiled, ifaces, maps, wideKeys, modest, calm, conditions, laid).
  DERIVED. THE GIVEN ROWS OF THIS SEAT. 3 by the template 'for every input the law returns true; each argument reads behind the call as it read before'; 0 by the template 'total and deterministic' (their statements: Qxb6604037aTotals.lean).
  GIVEN WITH THE SEED: the statements are not yours to turn. If you find one false, say at which input.
  Laid BY PROGRAM, IN A SANDBOX (cutbox-rows.mjs): the forced cells as the released guide's own fill.sh prints them over the translation 55569c8d1c6943eb… (all of the seat's roots in one cut). By AI agents, Wed Nov 11 2026. No macro, syntax, notation, axiom, sorry.
-/
import Derived.Test.Qxb6604037aChecked
import GoSem.Claim
import GoSem.ClaimJoined
import GoSem.ClaimMapViews
import Derived.JoinedTies
import Derived.KernelRfl
namespace Go.Proofs.Qxb6604037a
/- THE CELL 'sum', in the pinned program and in every row, IS THE sha256 OF THE DUMP (.gsa) THAT Qxb6604037aProg.lean LOADS. Nothing in Lean hashes anything: it is a label: what it is worth is what the hold of that sum in a sandbox is worth. -/
noncomputable def Try.pinned : Pinned := { name := "qxb6604037a", sum := "55569c8d1c6943eb72595d1673ddcc6b45abd94afa3229e1a937a9f51a3d8701", checked := Try.checked }
namespace Rows
def none {H : Type} : Left H := { results := [], args := [] }

/-- 'zzlaws_internal_strictjson_b1.FnSkipSpaceIsFirstNonSpace': WHATEVER THE INPUT: true; the input reads as it did. -/
def fnSkipSpaceIsFirstNonSpaceSpec : ChangeSpec := { name := "fnSkipSpaceIsFirstNonSpace", fn := fun _ => fun
  | [d1, d2] => { results := [.lit (.bool true)], args := [d1, d2] }
  | _ => none }
def fnSkipSpaceIsFirstNonSpaceRow : OpenClaim := { program := "qxb6604037a", sum := "55569c8d1c6943eb72595d1673ddcc6b45abd94afa3229e1a937a9f51a3d8701", func := "example.com/syncline/syncline/zzlaws_internal_strictjson_b1.FnSkipSpaceIsFirstNonSpace", spec := "fnSkipSpaceIsFirstNonSpace", apart := false }
def FnSkipSpaceIsFirstNonSpaceSaid : Prop := fnSkipSpaceIsFirstNonSpaceRow.holds Try.pinned (OpenSpec.ofChange fnSkipSpaceIsFirstNonSpaceSpec)

/-- ITS FALSE NEIGHBOUR: 'it returns false'. Refute it at one input. -/
def fnSkipSpaceIsFirstNonSpaceWrong : ChangeSpec := { name := "fnSkipSpaceIsFirstNonSpace", fn := fun _ => fun
  | [d1, d2] => { results := [.lit (.bool false)], args := [d1, d2] }
  | _ => none }
def FnSkipSpaceIsFirstNonSpaceWrongFalsely : Prop := fnSkipSpaceIsFirstNonSpaceRow.holds Try.pinned (OpenSpec.ofChange fnSkipSpaceIsFirstNonSpaceWrong)

/-- 'zzlaws_internal_strictjson_b1.FnValueEndMatchesScanModel': WHATEVER THE INPUT: true; the input reads as it did. -/
def fnValueEndMatchesScanModelSpec : ChangeSpec := { name := "fnValueEndMatchesScanModel", fn := fun _ => fun
  | [d1, d2] => { results := [.lit (.bool true)], args := [d1, d2] }
  | _ => none }
def fnValueEndMatchesScanModelRow : OpenClaim := { program := "qxb6604037a", sum := "55569c8d1c6943eb72595d1673ddcc6b45abd94afa3229e1a937a9f51a3d8701", func := "example.com/syncline/syncline/zzlaws_internal_strictjson_b1.FnValueEndMatchesScanModel", spec := "fnValueEndMatchesScanModel", recurses := true, apart := false }
def FnValueEndMatchesScanModelSaid : Prop := fnValueEndMatchesScanModelRow.holds Try.pinned (OpenSpec.ofChange fnValueEndMatchesScanModelSpec)

/-- ITS FALSE NEIGHBOUR: 'it returns false'. Refute it at one input. -/
def fnValueEndMatchesScanModelWrong : ChangeSpec := { name := "fnValueEndMatchesScanModel", fn := fun _ => fun
  | [d1, d2] => { results := [.lit (.bool false)], args := [d1, d2] }
  | _ => none }
def FnValueEndMatchesScanModelWrongFalsely : Prop := fnValueEndMatchesScanModelRow.holds Try.pinned (OpenSpec.ofChange fnValueEndMatchesScanModelWrong)

/-- 'zzlaws_internal_strictjson_b1.FnValueEndWindowConsistent': WHATEVER THE INPUT: true; the input reads as it did. -/
def fnValueEndWindowConsistentSpec : ChangeSpec := { name := "fnValueEndWindowConsistent", fn := fun _ => fun
  | [d1, d2, d3, d4] => { results := [.lit (.bool true)], args := [d1, d2, d3, d4] }
  | _ => none }
def fnValueEndWindowConsistentRow : OpenClaim := { program := "qxb6604037a", sum := "55569c8d1c6943eb72595d1673ddcc6b45abd94afa3229e1a937a9f51a3d8701", func := "example.com/syncline/syncline/zzlaws_internal_strictjson_b1.FnValueEndWindowConsistent", spec := "fnValueEndWindowConsistent", recurses := true, apart := false }
def FnValueEndWindowConsistentSaid : Prop := fnValueEndWindowConsistentRow.holds Try.pinned (OpenSpec.ofChange fnValueEndWindowConsistentSpec)

/-- ITS FALSE NEIGHBOUR: 'it returns false'. Refute it at one input. -/
def fnValueEndWindowConsistentWrong : ChangeSpec := { name := "fnValueEndWindowConsistent", fn := fun _ => fun
  | [d1, d2, d3, d4] => { results := [.lit (.bool false)], args := [d1, d2, d3, d4] }
  | _ => none }
def FnValueEndWindowConsistentWrongFalsely : Prop := fnValueEndWindowConsistentRow.holds Try.pinned (OpenSpec.ofChange fnValueEndWindowConsistentWrong)

end Rows
end Go.Proofs.Qxb6604037a
