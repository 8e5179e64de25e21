/-
  No cell of these rows narrows 'for every input' (looked for: loops, veiled, ifaces, maps, wideKeys, modest, calm, conditions, laid).
  DERIVED. THE GIVEN ROWS OF THIS SEAT. 2 by the template 'for every input the law returns true; each argument reads behind the call as it read before'; 0 by the template 'total and deterministic' (their statements: Qxb6616823aModsTotals.lean).
  GIVEN WITH THE SEED: the statements are not yours to turn. If you find one false, say at which input.
  Laid BY PROGRAM, IN A SANDBOX (cutbox-rows.mjs): the forced cells as the released guide's own fill.sh prints them over the translation b2b5742a537ab0be… (all of the seat's roots in one cut). By AI agents, Wed Nov 11 2026. No macro, syntax, notation, axiom, sorry.
-/
import Derived.Test.Qxb6616823aModsChecked
import GoSem.Claim
import GoSem.ClaimJoined
import GoSem.ClaimMapViews
import Derived.JoinedTies
import Derived.KernelRfl
namespace Go.Proofs.Qxb6616823aMods
/- THE CELL 'sum', in the pinned program and in every row, IS THE sha256 OF THE DUMP (.gsa) THAT Qxb6616823aModsProg.lean LOADS. Nothing in Lean hashes anything: it is a label: what it is worth is what the hold of that sum in a sandbox is worth. -/
noncomputable def Trym.pinned : Pinned := { name := "qxb6616823amods", sum := "b2b5742a537ab0bef9975fb8fbc8fed3fbed8d2dcb04bf86db937cfddb901056", checked := Trym.checked }
namespace Rows
def none {H : Type} : Left H := { results := [], args := [] }

/-- 'zzlaws_pkg_coordinator_b1.FnChangeEqualSelfAndOneInserted': WHATEVER THE INPUT: true; the input reads as it did. -/
def fnChangeEqualSelfAndOneInsertedSpec : ChangeSpec := { name := "fnChangeEqualSelfAndOneInserted", fn := fun _ => fun
  | [d1, d2, d3, d4, d5] => { results := [.lit (.bool true)], args := [d1, d2, d3, d4, d5] }
  | _ => none }
def fnChangeEqualSelfAndOneInsertedRow : OpenClaim := { program := "qxb6616823amods", sum := "b2b5742a537ab0bef9975fb8fbc8fed3fbed8d2dcb04bf86db937cfddb901056", func := "example.com/causeway/causeway/zzlaws_pkg_coordinator_b1.FnChangeEqualSelfAndOneInserted", spec := "fnChangeEqualSelfAndOneInserted", make := .lifted ["publicsums"], apart := false }
def FnChangeEqualSelfAndOneInsertedSaid : Prop := fnChangeEqualSelfAndOneInsertedRow.holds Trym.pinned (OpenSpec.ofChange fnChangeEqualSelfAndOneInsertedSpec)

/-- ITS FALSE NEIGHBOUR: 'it returns false'. Refute it at one input. -/
def fnChangeEqualSelfAndOneInsertedWrong : ChangeSpec := { name := "fnChangeEqualSelfAndOneInserted", fn := fun _ => fun
  | [d1, d2, d3, d4, d5] => { results := [.lit (.bool false)], args := [d1, d2, d3, d4, d5] }
  | _ => none }
def FnChangeEqualSelfAndOneInsertedWrongFalsely : Prop := fnChangeEqualSelfAndOneInsertedRow.holds Trym.pinned (OpenSpec.ofChange fnChangeEqualSelfAndOneInsertedWrong)

/-- 'zzlaws_pkg_coordinator_b1.FnChangeEqualOneReplaced': WHATEVER THE INPUT: true; the input reads as it did. -/
def fnChangeEqualOneReplacedSpec : ChangeSpec := { name := "fnChangeEqualOneReplaced", fn := fun _ => fun
  | [d1, d2, d3, d4, d5] => { results := [.lit (.bool true)], args := [d1, d2, d3, d4, d5] }
  | _ => none }
def fnChangeEqualOneReplacedRow : OpenClaim := { program := "qxb6616823amods", sum := "b2b5742a537ab0bef9975fb8fbc8fed3fbed8d2dcb04bf86db937cfddb901056", func := "example.com/causeway/causeway/zzlaws_pkg_coordinator_b1.FnChangeEqualOneReplaced", spec := "fnChangeEqualOneReplaced", make := .lifted ["publicsums"], apart := false }
def FnChangeEqualOneReplacedSaid : Prop := fnChangeEqualOneReplacedRow.holds Trym.pinned (OpenSpec.ofChange fnChangeEqualOneReplacedSpec)

/-- ITS FALSE NEIGHBOUR: 'it returns false'. Refute it at one input. -/
def fnChangeEqualOneReplacedWrong : ChangeSpec := { name := "fnChangeEqualOneReplaced", fn := fun _ => fun
  | [d1, d2, d3, d4, d5] => { results := [.lit (.bool false)], args := [d1, d2, d3, d4, d5] }
  | _ => none }
def FnChangeEqualOneReplacedWrongFalsely : Prop := fnChangeEqualOneReplacedRow.holds Trym.pinned (OpenSpec.ofChange fnChangeEqualOneReplacedWrong)

end Rows
end Go.Proofs.Qxb6616823aMods
