/-
  No cell of these rows narrows 'for every input' (looked for: loops, veiled, ifaces, maps, wideKeys, modest, calm, conditions, laid).
  DERIVED. THE GIVEN ROWS OF THIS SEAT. 4 by the template 'for every input the law returns true; each argument reads behind the call as it read before'; 0 by the template 'total and deterministic' (their statements: Qxb6605862aModsTotals.lean).
  GIVEN WITH THE SEED: the statements are not yours to turn. If you find one false, say at which input.
  Laid BY PROGRAM, IN A SANDBOX (cutbox-rows.mjs): the forced cells as the released guide's own fill.sh prints them over the translation 49be3599c73c2b00… (all of the seat's roots in one cut). By AI agents, Wed Nov 11 2026. No macro, syntax, notation, axiom, sorry.
-/
import Derived.Test.Qxb6605862aModsChecked
import GoSem.Claim
import GoSem.ClaimJoined
import GoSem.ClaimMapViews
import Derived.JoinedTies
import Derived.KernelRfl
namespace Go.Proofs.Qxb6605862aMods
/- THE CELL 'sum', in the pinned program and in every row, IS THE sha256 OF THE DUMP (.gsa) THAT Qxb6605862aModsProg.lean LOADS. Nothing in Lean hashes anything: it is a label: what it is worth is what the hold of that sum in a sandbox is worth. -/
noncomputable def Trym.pinned : Pinned := { name := "qxb6605862amods", sum := "49be3599c73c2b00120d3726fda680e2d3a0fb2fd3545ac1473d77d42e109214", checked := Trym.checked }
namespace Rows
def none {H : Type} : Left H := { results := [], args := [] }

/-- 'zzlaws_internal_api_v1alpha1_b1.FnOfCellNamedWriteHasOneOwner': WHATEVER THE INPUT: true; the input reads as it did. -/
def fnOfCellNamedWriteHasOneOwnerSpec : ChangeSpec := { name := "fnOfCellNamedWriteHasOneOwner", fn := fun _ => fun
  | [d1, d2, d3, d4] => { results := [.lit (.bool true)], args := [d1, d2, d3, d4] }
  | _ => none }
def fnOfCellNamedWriteHasOneOwnerRow : OpenClaim := { program := "qxb6605862amods", sum := "49be3599c73c2b00120d3726fda680e2d3a0fb2fd3545ac1473d77d42e109214", func := "example.com/floorkeeper/floorkeeper/zzlaws_internal_api_v1alpha1_b1.FnOfCellNamedWriteHasOneOwner", spec := "fnOfCellNamedWriteHasOneOwner", make := .lifted ["publicsums"], apart := false }
def FnOfCellNamedWriteHasOneOwnerSaid : Prop := fnOfCellNamedWriteHasOneOwnerRow.holds Trym.pinned (OpenSpec.ofChange fnOfCellNamedWriteHasOneOwnerSpec)

/-- ITS FALSE NEIGHBOUR: 'it returns false'. Refute it at one input. -/
def fnOfCellNamedWriteHasOneOwnerWrong : ChangeSpec := { name := "fnOfCellNamedWriteHasOneOwner", fn := fun _ => fun
  | [d1, d2, d3, d4] => { results := [.lit (.bool false)], args := [d1, d2, d3, d4] }
  | _ => none }
def FnOfCellNamedWriteHasOneOwnerWrongFalsely : Prop := fnOfCellNamedWriteHasOneOwnerRow.holds Trym.pinned (OpenSpec.ofChange fnOfCellNamedWriteHasOneOwnerWrong)

/-- 'zzlaws_internal_api_v1alpha1_b1.FnRememberedAnswersFirstAnswerForever': WHATEVER THE INPUT: true; the input reads as it did. -/
def fnRememberedAnswersFirstAnswerForeverSpec : ChangeSpec := { name := "fnRememberedAnswersFirstAnswerForever", fn := fun _ => fun
  | [d1, d2, d3] => { results := [.lit (.bool true)], args := [d1, d2, d3] }
  | _ => none }
def fnRememberedAnswersFirstAnswerForeverRow : OpenClaim := { program := "qxb6605862amods", sum := "49be3599c73c2b00120d3726fda680e2d3a0fb2fd3545ac1473d77d42e109214", func := "example.com/floorkeeper/floorkeeper/zzlaws_internal_api_v1alpha1_b1.FnRememberedAnswersFirstAnswerForever", spec := "fnRememberedAnswersFirstAnswerForever", unfollowed := true, recurses := true, make := .lifted ["publicsums"], apart := false }
def FnRememberedAnswersFirstAnswerForeverSaid : Prop := fnRememberedAnswersFirstAnswerForeverRow.holds Trym.pinned (OpenSpec.ofChange fnRememberedAnswersFirstAnswerForeverSpec)

/-- ITS FALSE NEIGHBOUR: 'it returns false'. Refute it at one input. -/
def fnRememberedAnswersFirstAnswerForeverWrong : ChangeSpec := { name := "fnRememberedAnswersFirstAnswerForever", fn := fun _ => fun
  | [d1, d2, d3] => { results := [.lit (.bool false)], args := [d1, d2, d3] }
  | _ => none }
def FnRememberedAnswersFirstAnswerForeverWrongFalsely : Prop := fnRememberedAnswersFirstAnswerForeverRow.holds Trym.pinned (OpenSpec.ofChange fnRememberedAnswersFirstAnswerForeverWrong)

/-- 'zzlaws_internal_api_v1alpha1_b1.FnRememberedWrappersKeepSeparateMemories': WHATEVER THE INPUT: true; the input reads as it did. -/
def fnRememberedWrappersKeepSeparateMemoriesSpec : ChangeSpec := { name := "fnRememberedWrappersKeepSeparateMemories", fn := fun _ => fun
  | [d1, d2, d3] => { results := [.lit (.bool true)], args := [d1, d2, d3] }
  | _ => none }
def fnRememberedWrappersKeepSeparateMemoriesRow : OpenClaim := { program := "qxb6605862amods", sum := "49be3599c73c2b00120d3726fda680e2d3a0fb2fd3545ac1473d77d42e109214", func := "example.com/floorkeeper/floorkeeper/zzlaws_internal_api_v1alpha1_b1.FnRememberedWrappersKeepSeparateMemories", spec := "fnRememberedWrappersKeepSeparateMemories", unfollowed := true, recurses := true, make := .lifted ["publicsums"], apart := false }
def FnRememberedWrappersKeepSeparateMemoriesSaid : Prop := fnRememberedWrappersKeepSeparateMemoriesRow.holds Trym.pinned (OpenSpec.ofChange fnRememberedWrappersKeepSeparateMemoriesSpec)

/-- ITS FALSE NEIGHBOUR: 'it returns false'. Refute it at one input. -/
def fnRememberedWrappersKeepSeparateMemoriesWrong : ChangeSpec := { name := "fnRememberedWrappersKeepSeparateMemories", fn := fun _ => fun
  | [d1, d2, d3] => { results := [.lit (.bool false)], args := [d1, d2, d3] }
  | _ => none }
def FnRememberedWrappersKeepSeparateMemoriesWrongFalsely : Prop := fnRememberedWrappersKeepSeparateMemoriesRow.holds Trym.pinned (OpenSpec.ofChange fnRememberedWrappersKeepSeparateMemoriesWrong)

/-- 'zzlaws_internal_api_v1alpha1_b1.FnCellOfFinalizerInvertsFinalizerNaming': WHATEVER THE INPUT: true; the input reads as it did. -/
def fnCellOfFinalizerInvertsFinalizerNamingSpec : ChangeSpec := { name := "fnCellOfFinalizerInvertsFinalizerNaming", fn := fun _ => fun
  | [d1, d2] => { results := [.lit (.bool true)], args := [d1, d2] }
  | _ => none }
def fnCellOfFinalizerInvertsFinalizerNamingRow : OpenClaim := { program := "qxb6605862amods", sum := "49be3599c73c2b00120d3726fda680e2d3a0fb2fd3545ac1473d77d42e109214", func := "example.com/floorkeeper/floorkeeper/zzlaws_internal_api_v1alpha1_b1.FnCellOfFinalizerInvertsFinalizerNaming", spec := "fnCellOfFinalizerInvertsFinalizerNaming", make := .lifted ["publicsums"], apart := false }
def FnCellOfFinalizerInvertsFinalizerNamingSaid : Prop := fnCellOfFinalizerInvertsFinalizerNamingRow.holds Trym.pinned (OpenSpec.ofChange fnCellOfFinalizerInvertsFinalizerNamingSpec)

/-- ITS FALSE NEIGHBOUR: 'it returns false'. Refute it at one input. -/
def fnCellOfFinalizerInvertsFinalizerNamingWrong : ChangeSpec := { name := "fnCellOfFinalizerInvertsFinalizerNaming", fn := fun _ => fun
  | [d1, d2] => { results := [.lit (.bool false)], args := [d1, d2] }
  | _ => none }
def FnCellOfFinalizerInvertsFinalizerNamingWrongFalsely : Prop := fnCellOfFinalizerInvertsFinalizerNamingRow.holds Trym.pinned (OpenSpec.ofChange fnCellOfFinalizerInvertsFinalizerNamingWrong)

end Rows
end Go.Proofs.Qxb6605862aMods
