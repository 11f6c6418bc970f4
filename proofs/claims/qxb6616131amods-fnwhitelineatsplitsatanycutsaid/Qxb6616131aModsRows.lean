/-
  No cell of these rows narrows 'for every input' (looked for: loops, veiled, ifaces, maps, wideKeys, modest, calm, conditions, laid).
  DERIVED. THE GIVEN ROWS OF THIS SEAT. 3 by the template 'for every input the law returns true; each argument reads behind the call as it read before'; 0 by the template 'total and deterministic' (their statements: Qxb6616131aModsTotals.lean).
  GIVEN WITH THE SEED: the statements are not yours to turn. If you find one false, say at which input.
  Laid BY PROGRAM, IN A SANDBOX (cutbox-rows.mjs): the forced cells as the released guide's own fill.sh prints them over the translation 8472d691c4e7c1be… (all of the seat's roots in one cut). By AI agents, Wed Nov 11 2026. No macro, syntax, notation, axiom, sorry.
-/
import Derived.Test.Qxb6616131aModsChecked
import GoSem.Claim
import GoSem.ClaimJoined
import GoSem.ClaimMapViews
import Derived.JoinedTies
import Derived.KernelRfl
namespace Go.Proofs.Qxb6616131aMods
/- THE CELL 'sum', in the pinned program and in every row, IS THE sha256 OF THE DUMP (.gsa) THAT Qxb6616131aModsProg.lean LOADS. Nothing in Lean hashes anything: it is a label: what it is worth is what the hold of that sum in a sandbox is worth. -/
noncomputable def Trym.pinned : Pinned := { name := "qxb6616131amods", sum := "8472d691c4e7c1be881da4452bf91cb2ba4e8f895e4b28570a4361dc757c4db4", checked := Trym.checked }
namespace Rows
def none {H : Type} : Left H := { results := [], args := [] }

/-- 'zzlaws_root_b1.FnReplacesMapsSplitsAtAnyCut': WHATEVER THE INPUT: true; the input reads as it did. -/
def fnReplacesMapsSplitsAtAnyCutSpec : ChangeSpec := { name := "fnReplacesMapsSplitsAtAnyCut", fn := fun _ => fun
  | [d1, d2] => { results := [.lit (.bool true)], args := [d1, d2] }
  | _ => none }
def fnReplacesMapsSplitsAtAnyCutRow : OpenClaim := { program := "qxb6616131amods", sum := "8472d691c4e7c1be881da4452bf91cb2ba4e8f895e4b28570a4361dc757c4db4", func := "example.com/ramson/ramson/zzlaws_root_b1.FnReplacesMapsSplitsAtAnyCut", spec := "fnReplacesMapsSplitsAtAnyCut", unfollowed := true, recurses := true, make := .lifted ["publicsums"], apart := false }
def FnReplacesMapsSplitsAtAnyCutSaid : Prop := fnReplacesMapsSplitsAtAnyCutRow.holds Trym.pinned (OpenSpec.ofChange fnReplacesMapsSplitsAtAnyCutSpec)

/-- ITS FALSE NEIGHBOUR: 'it returns false'. Refute it at one input. -/
def fnReplacesMapsSplitsAtAnyCutWrong : ChangeSpec := { name := "fnReplacesMapsSplitsAtAnyCut", fn := fun _ => fun
  | [d1, d2] => { results := [.lit (.bool false)], args := [d1, d2] }
  | _ => none }
def FnReplacesMapsSplitsAtAnyCutWrongFalsely : Prop := fnReplacesMapsSplitsAtAnyCutRow.holds Trym.pinned (OpenSpec.ofChange fnReplacesMapsSplitsAtAnyCutWrong)

/-- 'zzlaws_root_b1.FnWhiteLineAtSplitsAtAnyCut': WHATEVER THE INPUT: true; the input reads as it did. -/
def fnWhiteLineAtSplitsAtAnyCutSpec : ChangeSpec := { name := "fnWhiteLineAtSplitsAtAnyCut", fn := fun _ => fun
  | [d1, d2, d3, d4] => { results := [.lit (.bool true)], args := [d1, d2, d3, d4] }
  | _ => none }
def fnWhiteLineAtSplitsAtAnyCutRow : OpenClaim := { program := "qxb6616131amods", sum := "8472d691c4e7c1be881da4452bf91cb2ba4e8f895e4b28570a4361dc757c4db4", func := "example.com/ramson/ramson/zzlaws_root_b1.FnWhiteLineAtSplitsAtAnyCut", spec := "fnWhiteLineAtSplitsAtAnyCut", make := .lifted ["publicsums"], apart := false }
def FnWhiteLineAtSplitsAtAnyCutSaid : Prop := fnWhiteLineAtSplitsAtAnyCutRow.holds Trym.pinned (OpenSpec.ofChange fnWhiteLineAtSplitsAtAnyCutSpec)

/-- ITS FALSE NEIGHBOUR: 'it returns false'. Refute it at one input. -/
def fnWhiteLineAtSplitsAtAnyCutWrong : ChangeSpec := { name := "fnWhiteLineAtSplitsAtAnyCut", fn := fun _ => fun
  | [d1, d2, d3, d4] => { results := [.lit (.bool false)], args := [d1, d2, d3, d4] }
  | _ => none }
def FnWhiteLineAtSplitsAtAnyCutWrongFalsely : Prop := fnWhiteLineAtSplitsAtAnyCutRow.holds Trym.pinned (OpenSpec.ofChange fnWhiteLineAtSplitsAtAnyCutWrong)

/-- 'zzlaws_root_b1.FnWhiteLineAtHangsOnlyOnTheTextFromPosPlusK': WHATEVER THE INPUT: true; the input reads as it did. -/
def fnWhiteLineAtHangsOnlyOnTheTextFromPosPlusKSpec : ChangeSpec := { name := "fnWhiteLineAtHangsOnlyOnTheTextFromPosPlusK", fn := fun _ => fun
  | [d1, d2, d3] => { results := [.lit (.bool true)], args := [d1, d2, d3] }
  | _ => none }
def fnWhiteLineAtHangsOnlyOnTheTextFromPosPlusKRow : OpenClaim := { program := "qxb6616131amods", sum := "8472d691c4e7c1be881da4452bf91cb2ba4e8f895e4b28570a4361dc757c4db4", func := "example.com/ramson/ramson/zzlaws_root_b1.FnWhiteLineAtHangsOnlyOnTheTextFromPosPlusK", spec := "fnWhiteLineAtHangsOnlyOnTheTextFromPosPlusK", make := .lifted ["publicsums"], apart := false }
def FnWhiteLineAtHangsOnlyOnTheTextFromPosPlusKSaid : Prop := fnWhiteLineAtHangsOnlyOnTheTextFromPosPlusKRow.holds Trym.pinned (OpenSpec.ofChange fnWhiteLineAtHangsOnlyOnTheTextFromPosPlusKSpec)

/-- ITS FALSE NEIGHBOUR: 'it returns false'. Refute it at one input. -/
def fnWhiteLineAtHangsOnlyOnTheTextFromPosPlusKWrong : ChangeSpec := { name := "fnWhiteLineAtHangsOnlyOnTheTextFromPosPlusK", fn := fun _ => fun
  | [d1, d2, d3] => { results := [.lit (.bool false)], args := [d1, d2, d3] }
  | _ => none }
def FnWhiteLineAtHangsOnlyOnTheTextFromPosPlusKWrongFalsely : Prop := fnWhiteLineAtHangsOnlyOnTheTextFromPosPlusKRow.holds Trym.pinned (OpenSpec.ofChange fnWhiteLineAtHangsOnlyOnTheTextFromPosPlusKWrong)

end Rows
end Go.Proofs.Qxb6616131aMods
