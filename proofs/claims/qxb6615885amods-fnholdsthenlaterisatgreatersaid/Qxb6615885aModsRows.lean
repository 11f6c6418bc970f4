/-
  No cell of these rows narrows 'for every input' (looked for: loops, veiled, ifaces, maps, wideKeys, modest, calm, conditions, laid).
  DERIVED. THE GIVEN ROWS OF THIS SEAT. 4 by the template 'for every input the law returns true; each argument reads behind the call as it read before'; 0 by the template 'total and deterministic' (their statements: Qxb6615885aModsTotals.lean).
  GIVEN WITH THE SEED: the statements are not yours to turn. If you find one false, say at which input.
  Laid BY PROGRAM, IN A SANDBOX (cutbox-rows.mjs): the forced cells as the released guide's own fill.sh prints them over the translation 4e5b0e3af31c5844… (all of the seat's roots in one cut). By AI agents, Wed Nov 11 2026. No macro, syntax, notation, axiom, sorry.
-/
import Derived.Test.Qxb6615885aModsChecked
import GoSem.Claim
import GoSem.ClaimJoined
import GoSem.ClaimMapViews
import Derived.JoinedTies
import Derived.KernelRfl
namespace Go.Proofs.Qxb6615885aMods
/- THE CELL 'sum', in the pinned program and in every row, IS THE sha256 OF THE DUMP (.gsa) THAT Qxb6615885aModsProg.lean LOADS. Nothing in Lean hashes anything: it is a label: what it is worth is what the hold of that sum in a sandbox is worth. -/
noncomputable def Trym.pinned : Pinned := { name := "qxb6615885amods", sum := "4e5b0e3af31c58440507b9bf5d208587f9a42338b49e734537ccc325e2ec3c5f", checked := Trym.checked }
namespace Rows
def none {H : Type} : Left H := { results := [], args := [] }

/-- 'zzlaws_dnscheck_b1.FnHoldsAtAnyCut': WHATEVER THE INPUT: true; the input reads as it did. -/
def fnHoldsAtAnyCutSpec : ChangeSpec := { name := "fnHoldsAtAnyCut", fn := fun _ => fun
  | [d1, d2, d3, d4] => { results := [.lit (.bool true)], args := [d1, d2, d3, d4] }
  | _ => none }
def fnHoldsAtAnyCutRow : OpenClaim := { program := "qxb6615885amods", sum := "4e5b0e3af31c58440507b9bf5d208587f9a42338b49e734537ccc325e2ec3c5f", func := "example.com/hostlore/hostlore/zzlaws_dnscheck_b1.FnHoldsAtAnyCut", spec := "fnHoldsAtAnyCut", make := .lifted ["publicsums"], apart := false }
def FnHoldsAtAnyCutSaid : Prop := fnHoldsAtAnyCutRow.holds Trym.pinned (OpenSpec.ofChange fnHoldsAtAnyCutSpec)

/-- ITS FALSE NEIGHBOUR: 'it returns false'. Refute it at one input. -/
def fnHoldsAtAnyCutWrong : ChangeSpec := { name := "fnHoldsAtAnyCut", fn := fun _ => fun
  | [d1, d2, d3, d4] => { results := [.lit (.bool false)], args := [d1, d2, d3, d4] }
  | _ => none }
def FnHoldsAtAnyCutWrongFalsely : Prop := fnHoldsAtAnyCutRow.holds Trym.pinned (OpenSpec.ofChange fnHoldsAtAnyCutWrong)

/-- 'zzlaws_dnscheck_b1.FnHoldsThenLaterIsAtGreater': WHATEVER THE INPUT: true; the input reads as it did. -/
def fnHoldsThenLaterIsAtGreaterSpec : ChangeSpec := { name := "fnHoldsThenLaterIsAtGreater", fn := fun _ => fun
  | [d1, d2, d3, d4] => { results := [.lit (.bool true)], args := [d1, d2, d3, d4] }
  | _ => none }
def fnHoldsThenLaterIsAtGreaterRow : OpenClaim := { program := "qxb6615885amods", sum := "4e5b0e3af31c58440507b9bf5d208587f9a42338b49e734537ccc325e2ec3c5f", func := "example.com/hostlore/hostlore/zzlaws_dnscheck_b1.FnHoldsThenLaterIsAtGreater", spec := "fnHoldsThenLaterIsAtGreater", make := .lifted ["publicsums"], apart := false }
def FnHoldsThenLaterIsAtGreaterSaid : Prop := fnHoldsThenLaterIsAtGreaterRow.holds Trym.pinned (OpenSpec.ofChange fnHoldsThenLaterIsAtGreaterSpec)

/-- ITS FALSE NEIGHBOUR: 'it returns false'. Refute it at one input. -/
def fnHoldsThenLaterIsAtGreaterWrong : ChangeSpec := { name := "fnHoldsThenLaterIsAtGreater", fn := fun _ => fun
  | [d1, d2, d3, d4] => { results := [.lit (.bool false)], args := [d1, d2, d3, d4] }
  | _ => none }
def FnHoldsThenLaterIsAtGreaterWrongFalsely : Prop := fnHoldsThenLaterIsAtGreaterRow.holds Trym.pinned (OpenSpec.ofChange fnHoldsThenLaterIsAtGreaterWrong)

/-- 'zzlaws_dnscheck_b1.FnHoldsUpstreamIsHoldsOrDropped': WHATEVER THE INPUT: true; the input reads as it did. -/
def fnHoldsUpstreamIsHoldsOrDroppedSpec : ChangeSpec := { name := "fnHoldsUpstreamIsHoldsOrDropped", fn := fun _ => fun
  | [d1, d2, d3, d4, d5, d6] => { results := [.lit (.bool true)], args := [d1, d2, d3, d4, d5, d6] }
  | _ => none }
def fnHoldsUpstreamIsHoldsOrDroppedRow : OpenClaim := { program := "qxb6615885amods", sum := "4e5b0e3af31c58440507b9bf5d208587f9a42338b49e734537ccc325e2ec3c5f", func := "example.com/hostlore/hostlore/zzlaws_dnscheck_b1.FnHoldsUpstreamIsHoldsOrDropped", spec := "fnHoldsUpstreamIsHoldsOrDropped", inPlace := ["sync/atomic.StoreUint32", "sync/atomic.LoadUint32"], make := .lifted ["publicsums"], apart := false }
def FnHoldsUpstreamIsHoldsOrDroppedSaid : Prop := fnHoldsUpstreamIsHoldsOrDroppedRow.holds Trym.pinned (OpenSpec.ofChange fnHoldsUpstreamIsHoldsOrDroppedSpec)

/-- ITS FALSE NEIGHBOUR: 'it returns false'. Refute it at one input. -/
def fnHoldsUpstreamIsHoldsOrDroppedWrong : ChangeSpec := { name := "fnHoldsUpstreamIsHoldsOrDropped", fn := fun _ => fun
  | [d1, d2, d3, d4, d5, d6] => { results := [.lit (.bool false)], args := [d1, d2, d3, d4, d5, d6] }
  | _ => none }
def FnHoldsUpstreamIsHoldsOrDroppedWrongFalsely : Prop := fnHoldsUpstreamIsHoldsOrDroppedRow.holds Trym.pinned (OpenSpec.ofChange fnHoldsUpstreamIsHoldsOrDroppedWrong)

/-- 'zzlaws_dnscheck_b1.FnHoldsUpstreamTwiceIsOnce': WHATEVER THE INPUT: true; the input reads as it did. -/
def fnHoldsUpstreamTwiceIsOnceSpec : ChangeSpec := { name := "fnHoldsUpstreamTwiceIsOnce", fn := fun _ => fun
  | [d1, d2, d3, d4, d5, d6] => { results := [.lit (.bool true)], args := [d1, d2, d3, d4, d5, d6] }
  | _ => none }
def fnHoldsUpstreamTwiceIsOnceRow : OpenClaim := { program := "qxb6615885amods", sum := "4e5b0e3af31c58440507b9bf5d208587f9a42338b49e734537ccc325e2ec3c5f", func := "example.com/hostlore/hostlore/zzlaws_dnscheck_b1.FnHoldsUpstreamTwiceIsOnce", spec := "fnHoldsUpstreamTwiceIsOnce", inPlace := ["sync/atomic.StoreUint32", "sync/atomic.LoadUint32"], make := .lifted ["publicsums"], apart := false }
def FnHoldsUpstreamTwiceIsOnceSaid : Prop := fnHoldsUpstreamTwiceIsOnceRow.holds Trym.pinned (OpenSpec.ofChange fnHoldsUpstreamTwiceIsOnceSpec)

/-- ITS FALSE NEIGHBOUR: 'it returns false'. Refute it at one input. -/
def fnHoldsUpstreamTwiceIsOnceWrong : ChangeSpec := { name := "fnHoldsUpstreamTwiceIsOnce", fn := fun _ => fun
  | [d1, d2, d3, d4, d5, d6] => { results := [.lit (.bool false)], args := [d1, d2, d3, d4, d5, d6] }
  | _ => none }
def FnHoldsUpstreamTwiceIsOnceWrongFalsely : Prop := fnHoldsUpstreamTwiceIsOnceRow.holds Trym.pinned (OpenSpec.ofChange fnHoldsUpstreamTwiceIsOnceWrong)

end Rows
end Go.Proofs.Qxb6615885aMods
