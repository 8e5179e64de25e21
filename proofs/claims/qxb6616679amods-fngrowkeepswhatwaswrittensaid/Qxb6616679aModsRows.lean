/-
  No cell of these rows narrows 'for every input' (looked for: loops, veiled, ifaces, maps, wideKeys, modest, calm, conditions, laid).
  DERIVED. THE GIVEN ROWS OF THIS SEAT. 2 by the template 'for every input the law returns true; each argument reads behind the call as it read before'; 0 by the template 'total and deterministic' (their statements: Qxb6616679aModsTotals.lean).
  GIVEN WITH THE SEED: the statements are not yours to turn. If you find one false, say at which input.
  Laid BY PROGRAM, IN A SANDBOX (cutbox-rows.mjs): the forced cells as the released guide's own fill.sh prints them over the translation 236fce4b5bdec64b… (all of the seat's roots in one cut). By AI agents, Wed Nov 11 2026. No macro, syntax, notation, axiom, sorry.
-/
import Derived.Test.Qxb6616679aModsChecked
import GoSem.Claim
import GoSem.ClaimJoined
import GoSem.ClaimMapViews
import Derived.JoinedTies
import Derived.KernelRfl
namespace Go.Proofs.Qxb6616679aMods
/- THE CELL 'sum', in the pinned program and in every row, IS THE sha256 OF THE DUMP (.gsa) THAT Qxb6616679aModsProg.lean LOADS. Nothing in Lean hashes anything: it is a label: what it is worth is what the hold of that sum in a sandbox is worth. -/
noncomputable def Trym.pinned : Pinned := { name := "qxb6616679amods", sum := "236fce4b5bdec64b0b9256db007de7969a73caac07ff87d0f7b318ffb18a0aa7", checked := Trym.checked }
namespace Rows
def none {H : Type} : Left H := { results := [], args := [] }

/-- 'zzlaws_root_b1.FnGrowTwiceEqualsGrowAtGreater': WHATEVER THE INPUT: true; the input reads as it did. -/
def fnGrowTwiceEqualsGrowAtGreaterSpec : ChangeSpec := { name := "fnGrowTwiceEqualsGrowAtGreater", fn := fun _ => fun
  | [d1, d2, d3] => { results := [.lit (.bool true)], args := [d1, d2, d3] }
  | _ => none }
def fnGrowTwiceEqualsGrowAtGreaterRow : OpenClaim := { program := "qxb6616679amods", sum := "236fce4b5bdec64b0b9256db007de7969a73caac07ff87d0f7b318ffb18a0aa7", func := "example.com/credential-pool/credential-pool/zzlaws_root_b1.FnGrowTwiceEqualsGrowAtGreater", spec := "fnGrowTwiceEqualsGrowAtGreater", make := .lifted ["publicsums"], apart := false }
def FnGrowTwiceEqualsGrowAtGreaterSaid : Prop := fnGrowTwiceEqualsGrowAtGreaterRow.holds Trym.pinned (OpenSpec.ofChange fnGrowTwiceEqualsGrowAtGreaterSpec)

/-- ITS FALSE NEIGHBOUR: 'it returns false'. Refute it at one input. -/
def fnGrowTwiceEqualsGrowAtGreaterWrong : ChangeSpec := { name := "fnGrowTwiceEqualsGrowAtGreater", fn := fun _ => fun
  | [d1, d2, d3] => { results := [.lit (.bool false)], args := [d1, d2, d3] }
  | _ => none }
def FnGrowTwiceEqualsGrowAtGreaterWrongFalsely : Prop := fnGrowTwiceEqualsGrowAtGreaterRow.holds Trym.pinned (OpenSpec.ofChange fnGrowTwiceEqualsGrowAtGreaterWrong)

/-- 'zzlaws_root_b1.FnGrowKeepsWhatWasWritten': WHATEVER THE INPUT: true; the input reads as it did. -/
def fnGrowKeepsWhatWasWrittenSpec : ChangeSpec := { name := "fnGrowKeepsWhatWasWritten", fn := fun _ => fun
  | [d1, d2, d3, d4, d5] => { results := [.lit (.bool true)], args := [d1, d2, d3, d4, d5] }
  | _ => none }
def fnGrowKeepsWhatWasWrittenRow : OpenClaim := { program := "qxb6616679amods", sum := "236fce4b5bdec64b0b9256db007de7969a73caac07ff87d0f7b318ffb18a0aa7", func := "example.com/credential-pool/credential-pool/zzlaws_root_b1.FnGrowKeepsWhatWasWritten", spec := "fnGrowKeepsWhatWasWritten", make := .lifted ["publicsums"], apart := false }
def FnGrowKeepsWhatWasWrittenSaid : Prop := fnGrowKeepsWhatWasWrittenRow.holds Trym.pinned (OpenSpec.ofChange fnGrowKeepsWhatWasWrittenSpec)

/-- ITS FALSE NEIGHBOUR: 'it returns false'. Refute it at one input. -/
def fnGrowKeepsWhatWasWrittenWrong : ChangeSpec := { name := "fnGrowKeepsWhatWasWritten", fn := fun _ => fun
  | [d1, d2, d3, d4, d5] => { results := [.lit (.bool false)], args := [d1, d2, d3, d4, d5] }
  | _ => none }
def FnGrowKeepsWhatWasWrittenWrongFalsely : Prop := fnGrowKeepsWhatWasWrittenRow.holds Trym.pinned (OpenSpec.ofChange fnGrowKeepsWhatWasWrittenWrong)

end Rows
end Go.Proofs.Qxb6616679aMods
