/-
  No cell of these rows narrows 'for every input' (looked for: loops, veiled, ifaces, maps, wideKeys, modest, calm, conditions, laid).
  DERIVED. THE GIVEN ROWS OF THIS SEAT. 3 by the template 'for every input the law returns true; each argument reads behind the call as it read before'; 0 by the template 'total and deterministic' (their statements: Qxb6616439aModsTotals.lean).
  GIVEN WITH THE SEED: the statements are not yours to turn. If you find one false, say at which input.
  Laid BY PROGRAM, IN A SANDBOX (cutbox-rows.mjs): the forced cells as the released guide's own fill.sh prints them over the translation d4af24f33209445d… (all of the seat's roots in one cut). By AI agents, Wed Nov 11 2026. No macro, syntax, notation, axiom, sorry.
-/
import Derived.Test.Qxb6616439aModsChecked
import GoSem.Claim
import GoSem.ClaimJoined
import GoSem.ClaimMapViews
import Derived.JoinedTies
import Derived.KernelRfl
namespace Go.Proofs.Qxb6616439aMods
/- THE CELL 'sum', in the pinned program and in every row, IS THE sha256 OF THE DUMP (.gsa) THAT Qxb6616439aModsProg.lean LOADS. Nothing in Lean hashes anything: it is a label: what it is worth is what the hold of that sum in a sandbox is worth. -/
noncomputable def Trym.pinned : Pinned := { name := "qxb6616439amods", sum := "d4af24f33209445dd19e72cc309a3ada477451aacfc26607fd4a922887c196f8", checked := Trym.checked }
namespace Rows
def none {H : Type} : Left H := { results := [], args := [] }

/-- 'zzlaws_internal_crawl_b1.FnReserveHandsOutConsecutivePlaces': WHATEVER THE INPUT: true; the input reads as it did. -/
def fnReserveHandsOutConsecutivePlacesSpec : ChangeSpec := { name := "fnReserveHandsOutConsecutivePlaces", fn := fun _ => fun
  | [d1, d2] => { results := [.lit (.bool true)], args := [d1, d2] }
  | _ => none }
def fnReserveHandsOutConsecutivePlacesRow : OpenClaim := { program := "qxb6616439amods", sum := "d4af24f33209445dd19e72cc309a3ada477451aacfc26607fd4a922887c196f8", func := "example.com/gleanfold/gleanfold/zzlaws_internal_crawl_b1.FnReserveHandsOutConsecutivePlaces", spec := "fnReserveHandsOutConsecutivePlaces", make := .lifted ["publicsums"], apart := false }
def FnReserveHandsOutConsecutivePlacesSaid : Prop := fnReserveHandsOutConsecutivePlacesRow.holds Trym.pinned (OpenSpec.ofChange fnReserveHandsOutConsecutivePlacesSpec)

/-- ITS FALSE NEIGHBOUR: 'it returns false'. Refute it at one input. -/
def fnReserveHandsOutConsecutivePlacesWrong : ChangeSpec := { name := "fnReserveHandsOutConsecutivePlaces", fn := fun _ => fun
  | [d1, d2] => { results := [.lit (.bool false)], args := [d1, d2] }
  | _ => none }
def FnReserveHandsOutConsecutivePlacesWrongFalsely : Prop := fnReserveHandsOutConsecutivePlacesRow.holds Trym.pinned (OpenSpec.ofChange fnReserveHandsOutConsecutivePlacesWrong)

/-- 'zzlaws_internal_crawl_b1.FnReserveLogsCountApart': WHATEVER THE INPUT: true; the input reads as it did. -/
def fnReserveLogsCountApartSpec : ChangeSpec := { name := "fnReserveLogsCountApart", fn := fun _ => fun
  | [d1, d2, d3, d4, d5] => { results := [.lit (.bool true)], args := [d1, d2, d3, d4, d5] }
  | _ => none }
def fnReserveLogsCountApartRow : OpenClaim := { program := "qxb6616439amods", sum := "d4af24f33209445dd19e72cc309a3ada477451aacfc26607fd4a922887c196f8", func := "example.com/gleanfold/gleanfold/zzlaws_internal_crawl_b1.FnReserveLogsCountApart", spec := "fnReserveLogsCountApart", make := .lifted ["publicsums"], apart := false }
def FnReserveLogsCountApartSaid : Prop := fnReserveLogsCountApartRow.holds Trym.pinned (OpenSpec.ofChange fnReserveLogsCountApartSpec)

/-- ITS FALSE NEIGHBOUR: 'it returns false'. Refute it at one input. -/
def fnReserveLogsCountApartWrong : ChangeSpec := { name := "fnReserveLogsCountApart", fn := fun _ => fun
  | [d1, d2, d3, d4, d5] => { results := [.lit (.bool false)], args := [d1, d2, d3, d4, d5] }
  | _ => none }
def FnReserveLogsCountApartWrongFalsely : Prop := fnReserveLogsCountApartRow.holds Trym.pinned (OpenSpec.ofChange fnReserveLogsCountApartWrong)

/-- 'zzlaws_internal_crawl_b1.FnRetriesBudgetIsMaxRetries': WHATEVER THE INPUT: true; the input reads as it did. -/
def fnRetriesBudgetIsMaxRetriesSpec : ChangeSpec := { name := "fnRetriesBudgetIsMaxRetries", fn := fun _ => fun
  | [d1, d2, d3, d4, d5, d6, d7, d8] => { results := [.lit (.bool true)], args := [d1, d2, d3, d4, d5, d6, d7, d8] }
  | _ => none }
def fnRetriesBudgetIsMaxRetriesRow : OpenClaim := { program := "qxb6616439amods", sum := "d4af24f33209445dd19e72cc309a3ada477451aacfc26607fd4a922887c196f8", func := "example.com/gleanfold/gleanfold/zzlaws_internal_crawl_b1.FnRetriesBudgetIsMaxRetries", spec := "fnRetriesBudgetIsMaxRetries", make := .lifted ["publicsums"], apart := false }
def FnRetriesBudgetIsMaxRetriesSaid : Prop := fnRetriesBudgetIsMaxRetriesRow.holds Trym.pinned (OpenSpec.ofChange fnRetriesBudgetIsMaxRetriesSpec)

/-- ITS FALSE NEIGHBOUR: 'it returns false'. Refute it at one input. -/
def fnRetriesBudgetIsMaxRetriesWrong : ChangeSpec := { name := "fnRetriesBudgetIsMaxRetries", fn := fun _ => fun
  | [d1, d2, d3, d4, d5, d6, d7, d8] => { results := [.lit (.bool false)], args := [d1, d2, d3, d4, d5, d6, d7, d8] }
  | _ => none }
def FnRetriesBudgetIsMaxRetriesWrongFalsely : Prop := fnRetriesBudgetIsMaxRetriesRow.holds Trym.pinned (OpenSpec.ofChange fnRetriesBudgetIsMaxRetriesWrong)

end Rows
end Go.Proofs.Qxb6616439aMods
