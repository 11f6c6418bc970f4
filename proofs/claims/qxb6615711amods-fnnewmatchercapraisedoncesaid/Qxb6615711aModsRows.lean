/-
  No cell of these rows narrows 'for every input' (looked for: loops, veiled, ifaces, maps, wideKeys, modest, calm, conditions, laid).
  DERIVED. THE GIVEN ROWS OF THIS SEAT. 4 by the template 'for every input the law returns true; each argument reads behind the call as it read before'; 0 by the template 'total and deterministic' (their statements: Qxb6615711aModsTotals.lean).
  GIVEN WITH THE SEED: the statements are not yours to turn. If you find one false, say at which input.
  Laid BY PROGRAM, IN A SANDBOX (cutbox-rows.mjs): the forced cells as the released guide's own fill.sh prints them over the translation dc67d59cc7b6e150… (all of the seat's roots in one cut). By AI agents, Wed Nov 11 2026. No macro, syntax, notation, axiom, sorry.
-/
import Derived.Test.Qxb6615711aModsChecked
import GoSem.Claim
import GoSem.ClaimJoined
import GoSem.ClaimMapViews
import Derived.JoinedTies
import Derived.KernelRfl
namespace Go.Proofs.Qxb6615711aMods
/- THE CELL 'sum', in the pinned program and in every row, IS THE sha256 OF THE DUMP (.gsa) THAT Qxb6615711aModsProg.lean LOADS. Nothing in Lean hashes anything: it is a label: what it is worth is what the hold of that sum in a sandbox is worth. -/
noncomputable def Trym.pinned : Pinned := { name := "qxb6615711amods", sum := "dc67d59cc7b6e150c20ec3aa8919d066d5d8d65a1fda5fd0ed6e70fa9dc9462e", checked := Trym.checked }
namespace Rows
def none {H : Type} : Left H := { results := [], args := [] }

/-- 'zzlaws_root_b1.FnNewMatcherTableDoublesWithData': WHATEVER THE INPUT: true; the input reads as it did. -/
def fnNewMatcherTableDoublesWithDataSpec : ChangeSpec := { name := "fnNewMatcherTableDoublesWithData", fn := fun _ => fun
  | [d1, d2, d3] => { results := [.lit (.bool true)], args := [d1, d2, d3] }
  | _ => none }
def fnNewMatcherTableDoublesWithDataRow : OpenClaim := { program := "qxb6615711amods", sum := "dc67d59cc7b6e150c20ec3aa8919d066d5d8d65a1fda5fd0ed6e70fa9dc9462e", func := "example.com/colonnade/colonnade/zzlaws_root_b1.FnNewMatcherTableDoublesWithData", spec := "fnNewMatcherTableDoublesWithData", make := .lifted ["publicsums"], apart := false }
def FnNewMatcherTableDoublesWithDataSaid : Prop := fnNewMatcherTableDoublesWithDataRow.holds Trym.pinned (OpenSpec.ofChange fnNewMatcherTableDoublesWithDataSpec)

/-- ITS FALSE NEIGHBOUR: 'it returns false'. Refute it at one input. -/
def fnNewMatcherTableDoublesWithDataWrong : ChangeSpec := { name := "fnNewMatcherTableDoublesWithData", fn := fun _ => fun
  | [d1, d2, d3] => { results := [.lit (.bool false)], args := [d1, d2, d3] }
  | _ => none }
def FnNewMatcherTableDoublesWithDataWrongFalsely : Prop := fnNewMatcherTableDoublesWithDataRow.holds Trym.pinned (OpenSpec.ofChange fnNewMatcherTableDoublesWithDataWrong)

/-- 'zzlaws_root_b1.FnNewMatcherCapRaisedOnce': WHATEVER THE INPUT: true; the input reads as it did. -/
def fnNewMatcherCapRaisedOnceSpec : ChangeSpec := { name := "fnNewMatcherCapRaisedOnce", fn := fun _ => fun
  | [d1, d2, d3, d4] => { results := [.lit (.bool true)], args := [d1, d2, d3, d4] }
  | _ => none }
def fnNewMatcherCapRaisedOnceRow : OpenClaim := { program := "qxb6615711amods", sum := "dc67d59cc7b6e150c20ec3aa8919d066d5d8d65a1fda5fd0ed6e70fa9dc9462e", func := "example.com/colonnade/colonnade/zzlaws_root_b1.FnNewMatcherCapRaisedOnce", spec := "fnNewMatcherCapRaisedOnce", make := .lifted ["publicsums"], apart := false }
def FnNewMatcherCapRaisedOnceSaid : Prop := fnNewMatcherCapRaisedOnceRow.holds Trym.pinned (OpenSpec.ofChange fnNewMatcherCapRaisedOnceSpec)

/-- ITS FALSE NEIGHBOUR: 'it returns false'. Refute it at one input. -/
def fnNewMatcherCapRaisedOnceWrong : ChangeSpec := { name := "fnNewMatcherCapRaisedOnce", fn := fun _ => fun
  | [d1, d2, d3, d4] => { results := [.lit (.bool false)], args := [d1, d2, d3, d4] }
  | _ => none }
def FnNewMatcherCapRaisedOnceWrongFalsely : Prop := fnNewMatcherCapRaisedOnceRow.holds Trym.pinned (OpenSpec.ofChange fnNewMatcherCapRaisedOnceWrong)

/-- 'zzlaws_root_b1.FnQueryPastExactlyBeyondLastKey': WHATEVER THE INPUT: true; the input reads as it did. -/
def fnQueryPastExactlyBeyondLastKeySpec : ChangeSpec := { name := "fnQueryPastExactlyBeyondLastKey", fn := fun _ => fun
  | [d1, d2, d3, d4, d5, d6, d7, d8] => { results := [.lit (.bool true)], args := [d1, d2, d3, d4, d5, d6, d7, d8] }
  | _ => none }
def fnQueryPastExactlyBeyondLastKeyRow : OpenClaim := { program := "qxb6615711amods", sum := "dc67d59cc7b6e150c20ec3aa8919d066d5d8d65a1fda5fd0ed6e70fa9dc9462e", func := "example.com/colonnade/colonnade/zzlaws_root_b1.FnQueryPastExactlyBeyondLastKey", spec := "fnQueryPastExactlyBeyondLastKey", make := .lifted ["publicsums"], apart := false }
def FnQueryPastExactlyBeyondLastKeySaid : Prop := fnQueryPastExactlyBeyondLastKeyRow.holds Trym.pinned (OpenSpec.ofChange fnQueryPastExactlyBeyondLastKeySpec)

/-- ITS FALSE NEIGHBOUR: 'it returns false'. Refute it at one input. -/
def fnQueryPastExactlyBeyondLastKeyWrong : ChangeSpec := { name := "fnQueryPastExactlyBeyondLastKey", fn := fun _ => fun
  | [d1, d2, d3, d4, d5, d6, d7, d8] => { results := [.lit (.bool false)], args := [d1, d2, d3, d4, d5, d6, d7, d8] }
  | _ => none }
def FnQueryPastExactlyBeyondLastKeyWrongFalsely : Prop := fnQueryPastExactlyBeyondLastKeyRow.holds Trym.pinned (OpenSpec.ofChange fnQueryPastExactlyBeyondLastKeyWrong)

/-- 'zzlaws_root_b1.FnQueryWiderRegionPastLater': WHATEVER THE INPUT: true; the input reads as it did. -/
def fnQueryWiderRegionPastLaterSpec : ChangeSpec := { name := "fnQueryWiderRegionPastLater", fn := fun _ => fun
  | [d1, d2, d3, d4, d5, d6, d7, d8] => { results := [.lit (.bool true)], args := [d1, d2, d3, d4, d5, d6, d7, d8] }
  | _ => none }
def fnQueryWiderRegionPastLaterRow : OpenClaim := { program := "qxb6615711amods", sum := "dc67d59cc7b6e150c20ec3aa8919d066d5d8d65a1fda5fd0ed6e70fa9dc9462e", func := "example.com/colonnade/colonnade/zzlaws_root_b1.FnQueryWiderRegionPastLater", spec := "fnQueryWiderRegionPastLater", make := .lifted ["publicsums"], apart := false }
def FnQueryWiderRegionPastLaterSaid : Prop := fnQueryWiderRegionPastLaterRow.holds Trym.pinned (OpenSpec.ofChange fnQueryWiderRegionPastLaterSpec)

/-- ITS FALSE NEIGHBOUR: 'it returns false'. Refute it at one input. -/
def fnQueryWiderRegionPastLaterWrong : ChangeSpec := { name := "fnQueryWiderRegionPastLater", fn := fun _ => fun
  | [d1, d2, d3, d4, d5, d6, d7, d8] => { results := [.lit (.bool false)], args := [d1, d2, d3, d4, d5, d6, d7, d8] }
  | _ => none }
def FnQueryWiderRegionPastLaterWrongFalsely : Prop := fnQueryWiderRegionPastLaterRow.holds Trym.pinned (OpenSpec.ofChange fnQueryWiderRegionPastLaterWrong)

end Rows
end Go.Proofs.Qxb6615711aMods
