/-
  No cell of these rows narrows 'for every input' (looked for: loops, veiled, ifaces, maps, wideKeys, modest, calm, conditions, laid).
  DERIVED. THE GIVEN ROWS OF THIS SEAT. 3 by the template 'for every input the law returns true; each argument reads behind the call as it read before'; 0 by the template 'total and deterministic' (their statements: Qxb6603893aTotals.lean).
  GIVEN WITH THE SEED: the statements are not yours to turn. If you find one false, say at which input.
  Laid BY PROGRAM, IN A SANDBOX (cutbox-rows.mjs): the forced cells as the released guide's own fill.sh prints them over the translation 85437e122c45f739… (all of the seat's roots in one cut). By AI agents, Wed Nov 11 2026. No macro, syntax, notation, axiom, sorry.
-/
import Derived.Test.Qxb6603893aChecked
import GoSem.Claim
import GoSem.ClaimJoined
import GoSem.ClaimMapViews
import Derived.JoinedTies
import Derived.KernelRfl
namespace Go.Proofs.Qxb6603893a
/- THE CELL 'sum', in the pinned program and in every row, IS THE sha256 OF THE DUMP (.gsa) THAT Qxb6603893aProg.lean LOADS. Nothing in Lean hashes anything: it is a label: what it is worth is what the hold of that sum in a sandbox is worth. -/
noncomputable def Try.pinned : Pinned := { name := "qxb6603893a", sum := "85437e122c45f7391820ed17c6abd1fa6d1083df41dcb4e062d7e3d907f3642c", checked := Try.checked }
namespace Rows
def none {H : Type} : Left H := { results := [], args := [] }

/-- 'zzlaws_root_b1.FnHexEscapeRoundTrip': WHATEVER THE INPUT: true; the input reads as it did. -/
def fnHexEscapeRoundTripSpec : ChangeSpec := { name := "fnHexEscapeRoundTrip", fn := fun _ => fun
  | [d1, d2, d3, d4] => { results := [.lit (.bool true)], args := [d1, d2, d3, d4] }
  | _ => none }
def fnHexEscapeRoundTripRow : OpenClaim := { program := "qxb6603893a", sum := "85437e122c45f7391820ed17c6abd1fa6d1083df41dcb4e062d7e3d907f3642c", func := "example.com/tideline/tideline/zzlaws_root_b1.FnHexEscapeRoundTrip", spec := "fnHexEscapeRoundTrip", plainKeys := false, apart := false }
def FnHexEscapeRoundTripSaid : Prop := fnHexEscapeRoundTripRow.holds Try.pinned (OpenSpec.ofChange fnHexEscapeRoundTripSpec)

/-- ITS FALSE NEIGHBOUR: 'it returns false'. Refute it at one input. -/
def fnHexEscapeRoundTripWrong : ChangeSpec := { name := "fnHexEscapeRoundTrip", fn := fun _ => fun
  | [d1, d2, d3, d4] => { results := [.lit (.bool false)], args := [d1, d2, d3, d4] }
  | _ => none }
def FnHexEscapeRoundTripWrongFalsely : Prop := fnHexEscapeRoundTripRow.holds Try.pinned (OpenSpec.ofChange fnHexEscapeRoundTripWrong)

/-- 'zzlaws_root_b1.FnSeenNoteTwiceSameDevice': WHATEVER THE INPUT: true; the input reads as it did. -/
def fnSeenNoteTwiceSameDeviceSpec : ChangeSpec := { name := "fnSeenNoteTwiceSameDevice", fn := fun _ => fun
  | [d1, d2, d3, d4, d5, d6, d7, d8] => { results := [.lit (.bool true)], args := [d1, d2, d3, d4, d5, d6, d7, d8] }
  | _ => none }
def fnSeenNoteTwiceSameDeviceRow : OpenClaim := { program := "qxb6603893a", sum := "85437e122c45f7391820ed17c6abd1fa6d1083df41dcb4e062d7e3d907f3642c", func := "example.com/tideline/tideline/zzlaws_root_b1.FnSeenNoteTwiceSameDevice", spec := "fnSeenNoteTwiceSameDevice", plainKeys := false, apart := false }
def FnSeenNoteTwiceSameDeviceSaid : Prop := fnSeenNoteTwiceSameDeviceRow.holds Try.pinned (OpenSpec.ofChange fnSeenNoteTwiceSameDeviceSpec)

/-- ITS FALSE NEIGHBOUR: 'it returns false'. Refute it at one input. -/
def fnSeenNoteTwiceSameDeviceWrong : ChangeSpec := { name := "fnSeenNoteTwiceSameDevice", fn := fun _ => fun
  | [d1, d2, d3, d4, d5, d6, d7, d8] => { results := [.lit (.bool false)], args := [d1, d2, d3, d4, d5, d6, d7, d8] }
  | _ => none }
def FnSeenNoteTwiceSameDeviceWrongFalsely : Prop := fnSeenNoteTwiceSameDeviceRow.holds Try.pinned (OpenSpec.ofChange fnSeenNoteTwiceSameDeviceWrong)

/-- 'zzlaws_root_b1.FnSeenNoteScript': WHATEVER THE INPUT: true; the input reads as it did. -/
def fnSeenNoteScriptSpec : ChangeSpec := { name := "fnSeenNoteScript", fn := fun _ => fun
  | [d1, d2, d3, d4, d5, d6] => { results := [.lit (.bool true)], args := [d1, d2, d3, d4, d5, d6] }
  | _ => none }
def fnSeenNoteScriptRow : OpenClaim := { program := "qxb6603893a", sum := "85437e122c45f7391820ed17c6abd1fa6d1083df41dcb4e062d7e3d907f3642c", func := "example.com/tideline/tideline/zzlaws_root_b1.FnSeenNoteScript", spec := "fnSeenNoteScript", plainKeys := false, apart := false }
def FnSeenNoteScriptSaid : Prop := fnSeenNoteScriptRow.holds Try.pinned (OpenSpec.ofChange fnSeenNoteScriptSpec)

/-- ITS FALSE NEIGHBOUR: 'it returns false'. Refute it at one input. -/
def fnSeenNoteScriptWrong : ChangeSpec := { name := "fnSeenNoteScript", fn := fun _ => fun
  | [d1, d2, d3, d4, d5, d6] => { results := [.lit (.bool false)], args := [d1, d2, d3, d4, d5, d6] }
  | _ => none }
def FnSeenNoteScriptWrongFalsely : Prop := fnSeenNoteScriptRow.holds Try.pinned (OpenSpec.ofChange fnSeenNoteScriptWrong)

end Rows
end Go.Proofs.Qxb6603893a
