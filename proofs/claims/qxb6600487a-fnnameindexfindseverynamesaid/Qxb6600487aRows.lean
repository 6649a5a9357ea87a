/-
  No cell of these rows narrows 'for every input' (looked for: loops, veiled, ifaces, maps, wideKeys, modest, calm, conditions, laid).
  DERIVED. THE GIVEN ROWS OF THIS SEAT. 5 by the template 'for every input the law returns true; each argument reads behind the call as it read before'; 0 by the template 'total and deterministic' (their statements: Qxb6600487aTotals.lean).
  GIVEN WITH THE SEED: the statements are not yours to turn. If you find one false, say at which input.
  Laid BY PROGRAM, IN A SANDBOX (cutbox-rows.mjs): the forced cells as the released guide's own fill.sh prints them over the translation 47cb613fe1b0d909… (all of the seat's roots in one cut). By AI agents, Wed Nov 11 2026. No macro, syntax, notation, axiom, sorry.
-/
import Derived.Test.Qxb6600487aChecked
import GoSem.Claim
import GoSem.ClaimJoined
import GoSem.ClaimMapViews
import Derived.JoinedTies
import Derived.KernelRfl
namespace Go.Proofs.Qxb6600487a
/- THE CELL 'sum', in the pinned program and in every row, IS THE sha256 OF THE DUMP (.gsa) THAT Qxb6600487aProg.lean LOADS. Nothing in Lean hashes anything: it is a label: what it is worth is what the hold of that sum in a sandbox is worth. -/
noncomputable def Try.pinned : Pinned := { name := "qxb6600487a", sum := "47cb613fe1b0d909baf0ae7ca891692a636dee1f5e3cb5f8d5c299d9e8001590", checked := Try.checked }
namespace Rows
def none {H : Type} : Left H := { results := [], args := [] }

/-- 'zzlaws_root_b1.FnFieldSplitsOffFirstField': WHATEVER THE INPUT: true; the input reads as it did. -/
def fnFieldSplitsOffFirstFieldSpec : ChangeSpec := { name := "fnFieldSplitsOffFirstField", fn := fun _ => fun
  | [d] => { results := [.lit (.bool true)], args := [d] }
  | _ => none }
def fnFieldSplitsOffFirstFieldRow : OpenClaim := { program := "qxb6600487a", sum := "47cb613fe1b0d909baf0ae7ca891692a636dee1f5e3cb5f8d5c299d9e8001590", func := "example.com/freshet/freshet/zzlaws_root_b1.FnFieldSplitsOffFirstField", spec := "fnFieldSplitsOffFirstField", apart := false }
def FnFieldSplitsOffFirstFieldSaid : Prop := fnFieldSplitsOffFirstFieldRow.holds Try.pinned (OpenSpec.ofChange fnFieldSplitsOffFirstFieldSpec)

/-- ITS FALSE NEIGHBOUR: 'it returns false'. Refute it at one input. -/
def fnFieldSplitsOffFirstFieldWrong : ChangeSpec := { name := "fnFieldSplitsOffFirstField", fn := fun _ => fun
  | [d] => { results := [.lit (.bool false)], args := [d] }
  | _ => none }
def FnFieldSplitsOffFirstFieldWrongFalsely : Prop := fnFieldSplitsOffFirstFieldRow.holds Try.pinned (OpenSpec.ofChange fnFieldSplitsOffFirstFieldWrong)

/-- 'zzlaws_root_b1.FnFieldIteratedSplitsAtWhiteRuns': WHATEVER THE INPUT: true; the input reads as it did. -/
def fnFieldIteratedSplitsAtWhiteRunsSpec : ChangeSpec := { name := "fnFieldIteratedSplitsAtWhiteRuns", fn := fun _ => fun
  | [d] => { results := [.lit (.bool true)], args := [d] }
  | _ => none }
def fnFieldIteratedSplitsAtWhiteRunsRow : OpenClaim := { program := "qxb6600487a", sum := "47cb613fe1b0d909baf0ae7ca891692a636dee1f5e3cb5f8d5c299d9e8001590", func := "example.com/freshet/freshet/zzlaws_root_b1.FnFieldIteratedSplitsAtWhiteRuns", spec := "fnFieldIteratedSplitsAtWhiteRuns", apart := false }
def FnFieldIteratedSplitsAtWhiteRunsSaid : Prop := fnFieldIteratedSplitsAtWhiteRunsRow.holds Try.pinned (OpenSpec.ofChange fnFieldIteratedSplitsAtWhiteRunsSpec)

/-- ITS FALSE NEIGHBOUR: 'it returns false'. Refute it at one input. -/
def fnFieldIteratedSplitsAtWhiteRunsWrong : ChangeSpec := { name := "fnFieldIteratedSplitsAtWhiteRuns", fn := fun _ => fun
  | [d] => { results := [.lit (.bool false)], args := [d] }
  | _ => none }
def FnFieldIteratedSplitsAtWhiteRunsWrongFalsely : Prop := fnFieldIteratedSplitsAtWhiteRunsRow.holds Try.pinned (OpenSpec.ofChange fnFieldIteratedSplitsAtWhiteRunsWrong)

/-- 'zzlaws_root_b1.FnNameIndexFindsEveryName': WHATEVER THE INPUT: true; the input reads as it did. -/
def fnNameIndexFindsEveryNameSpec : ChangeSpec := { name := "fnNameIndexFindsEveryName", fn := fun _ => fun
  | [d] => { results := [.lit (.bool true)], args := [d] }
  | _ => none }
def fnNameIndexFindsEveryNameRow : OpenClaim := { program := "qxb6600487a", sum := "47cb613fe1b0d909baf0ae7ca891692a636dee1f5e3cb5f8d5c299d9e8001590", func := "example.com/freshet/freshet/zzlaws_root_b1.FnNameIndexFindsEveryName", spec := "fnNameIndexFindsEveryName", apart := false }
def FnNameIndexFindsEveryNameSaid : Prop := fnNameIndexFindsEveryNameRow.holds Try.pinned (OpenSpec.ofChange fnNameIndexFindsEveryNameSpec)

/-- ITS FALSE NEIGHBOUR: 'it returns false'. Refute it at one input. -/
def fnNameIndexFindsEveryNameWrong : ChangeSpec := { name := "fnNameIndexFindsEveryName", fn := fun _ => fun
  | [d] => { results := [.lit (.bool false)], args := [d] }
  | _ => none }
def FnNameIndexFindsEveryNameWrongFalsely : Prop := fnNameIndexFindsEveryNameRow.holds Try.pinned (OpenSpec.ofChange fnNameIndexFindsEveryNameWrong)

/-- 'zzlaws_root_b1.FnTheoryOfPartsIsLatestOfParts': WHATEVER THE INPUT: true; the input reads as it did. -/
def fnTheoryOfPartsIsLatestOfPartsSpec : ChangeSpec := { name := "fnTheoryOfPartsIsLatestOfParts", fn := fun _ => fun
  | [d1, d2, d3, d4, d5] => { results := [.lit (.bool true)], args := [d1, d2, d3, d4, d5] }
  | _ => none }
def fnTheoryOfPartsIsLatestOfPartsRow : OpenClaim := { program := "qxb6600487a", sum := "47cb613fe1b0d909baf0ae7ca891692a636dee1f5e3cb5f8d5c299d9e8001590", func := "example.com/freshet/freshet/zzlaws_root_b1.FnTheoryOfPartsIsLatestOfParts", spec := "fnTheoryOfPartsIsLatestOfParts", apart := false }
def FnTheoryOfPartsIsLatestOfPartsSaid : Prop := fnTheoryOfPartsIsLatestOfPartsRow.holds Try.pinned (OpenSpec.ofChange fnTheoryOfPartsIsLatestOfPartsSpec)

/-- ITS FALSE NEIGHBOUR: 'it returns false'. Refute it at one input. -/
def fnTheoryOfPartsIsLatestOfPartsWrong : ChangeSpec := { name := "fnTheoryOfPartsIsLatestOfParts", fn := fun _ => fun
  | [d1, d2, d3, d4, d5] => { results := [.lit (.bool false)], args := [d1, d2, d3, d4, d5] }
  | _ => none }
def FnTheoryOfPartsIsLatestOfPartsWrongFalsely : Prop := fnTheoryOfPartsIsLatestOfPartsRow.holds Try.pinned (OpenSpec.ofChange fnTheoryOfPartsIsLatestOfPartsWrong)

/-- 'zzlaws_root_b1.FnTheoryOfPartsIgnoresPartOrder': WHATEVER THE INPUT: true; the input reads as it did. -/
def fnTheoryOfPartsIgnoresPartOrderSpec : ChangeSpec := { name := "fnTheoryOfPartsIgnoresPartOrder", fn := fun _ => fun
  | [d1, d2, d3, d4, d5] => { results := [.lit (.bool true)], args := [d1, d2, d3, d4, d5] }
  | _ => none }
def fnTheoryOfPartsIgnoresPartOrderRow : OpenClaim := { program := "qxb6600487a", sum := "47cb613fe1b0d909baf0ae7ca891692a636dee1f5e3cb5f8d5c299d9e8001590", func := "example.com/freshet/freshet/zzlaws_root_b1.FnTheoryOfPartsIgnoresPartOrder", spec := "fnTheoryOfPartsIgnoresPartOrder", apart := false }
def FnTheoryOfPartsIgnoresPartOrderSaid : Prop := fnTheoryOfPartsIgnoresPartOrderRow.holds Try.pinned (OpenSpec.ofChange fnTheoryOfPartsIgnoresPartOrderSpec)

/-- ITS FALSE NEIGHBOUR: 'it returns false'. Refute it at one input. -/
def fnTheoryOfPartsIgnoresPartOrderWrong : ChangeSpec := { name := "fnTheoryOfPartsIgnoresPartOrder", fn := fun _ => fun
  | [d1, d2, d3, d4, d5] => { results := [.lit (.bool false)], args := [d1, d2, d3, d4, d5] }
  | _ => none }
def FnTheoryOfPartsIgnoresPartOrderWrongFalsely : Prop := fnTheoryOfPartsIgnoresPartOrderRow.holds Try.pinned (OpenSpec.ofChange fnTheoryOfPartsIgnoresPartOrderWrong)

end Rows
end Go.Proofs.Qxb6600487a
