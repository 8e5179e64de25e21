/-
  THE PROOF OF 'Rows.FnOfCellNamedWriteHasOneOwnerSaid': the frame round the walk, after the guide's own shell for a law.
-/
import Derived.Test.Qxb6605862aModsCell
import Derived.OpenShut
import Derived.ShutString
import Derived.ChangeOld
import Derived.Below
namespace Go.Proofs.Qxb6605862aMods.fnOfCellNamedWriteHasOneOwner
open Go.ChangeShapes Go.WideShapes Go.ChangeAt Go.RowKit
open Go.ChangeMaps (open_string shut_string)
open cell
set_option linter.unusedVariables false

theorem own : ownKnob Trym.prog.godebug = none := by kernel_rfl
theorem laidOut : laidOutB Trym.prog = true := by kernel_rfl

theorem bytes_yes (a b : ByteArray) (c d : Bool) (w : World) (ha : a.size ≤ maxLen) (hb : b.size ≤ maxLen) (h : a.size + b.size ≤ 1048576) :
    Calls Trym.prog 7 #[.string a, .string b, .bool c, .bool d] w fun e w' => e = .returned (.bool true) ∧ w = w' :=
  (bytes7 a b c d w ha hb).mono fun e w' ⟨he, hw⟩ => ⟨by rw [he, decide_eq_true h], hw⟩
theorem bytes_no (a b : ByteArray) (c d : Bool) (w : World) (ha : a.size ≤ maxLen) (hb : b.size ≤ maxLen) (h : ¬ a.size + b.size ≤ 1048576) :
    Calls Trym.prog 7 #[.string a, .string b, .bool c, .bool d] w fun e w' => e = .returned (.bool false) ∧ w = w' :=
  (bytes7 a b c d w ha hb).mono fun e w' ⟨he, hw⟩ => ⟨by rw [he, decide_eq_false h], hw⟩

set_option maxHeartbeats 1000000 in
theorem walk (a0 a1 : ByteArray) (a2 a3 : Bool) (w : World) (w0 : a0.size ≤ maxLen) (w1 : a1.size ≤ maxLen) :
    Calls Trym.prog 3 #[.string a0, .string a1, .bool a2, .bool a3] w fun e w' => e = .returned (.bool true) ∧ Below w.heap.size w w' := by
  by_cases h : a0.size + a1.size ≤ 1048576
  · have hy := bytes_yes a0 a1 a2 a3 w w0 w1 h
    have HY : Hid (Calls Trym.prog 7 #[.string a0, .string a1, .bool a2, .bool a3] w fun e w' => e = .returned (.bool true) ∧ w = w') := hy
    clear hy w0 w1
    have g0 : a0.size ≤ 1048576 := by omega
    have g1 : a1.size ≤ 1048576 := by omega
    by_cases e0 : a0.toList = []
    · by_cases e1 : a1.toList = []
      · go_enter Trym.func3, Trym.ntmps3
        go_wp2_with fail
        refine HY.out.mono ?_
        rintro e w' ⟨rfl, rfl⟩
        go_wp2_with fail
        refine (of_self _ _ _).mono ?_
        rintro e w' ⟨rfl, rfl⟩
        go_wp2_with fail
        refine (of_core _ _).mono ?_
        rintro e w' ⟨rfl, rfl⟩
        go_wp2_with fail
        go_ret
        exact ⟨rfl, Below.refl _ _⟩
      · have n1 : a1.toList.isEmpty = false := by simpa using e1
        go_enter Trym.func3, Trym.ntmps3
        go_wp2_with fail
        refine HY.out.mono ?_
        rintro e w' ⟨rfl, rfl⟩
        go_wp2_with fail
        refine (of_self _ _ _).mono ?_
        rintro e w' ⟨rfl, rfl⟩
        go_wp2_with fail
        refine (of_core _ _).mono ?_
        rintro e w' ⟨rfl, rfl⟩
        go_wp2_with fail
        refine (of_none _ _ e1).mono ?_
        rintro e w' ⟨rfl, rfl⟩
        go_wp2_with fail
        go_ret
        exact ⟨rfl, Below.refl _ _⟩
    · have n0 : a0.toList.isEmpty = false := by simpa using e0
      by_cases e2 : a1 = a0
      · subst e2
        go_enter Trym.func3, Trym.ntmps3
        go_wp2_with fail
        refine HY.out.mono ?_
        rintro e w' ⟨rfl, rfl⟩
        go_wp2_with fail
        refine (of_self _ _ _).mono ?_
        rintro e w' ⟨rfl, rfl⟩
        go_wp2_with fail
        refine (of_core _ _).mono ?_
        rintro e w' ⟨rfl, rfl⟩
        go_wp2_with fail
        refine (of_none _ _ e0).mono ?_
        rintro e w' ⟨rfl, rfl⟩
        go_wp2_with fail
        go_ret
        exact ⟨rfl, Below.refl _ _⟩
      · have n2 : (a1.toList == a0.toList) = false := (Lib.bytes_beq_false_iff _ _).2 e2
        have e3 : ¬ a0.toList = a1.toList := fun e => by rw [e] at n2; simp at n2
        have E3 : Hid (¬ a0.toList = a1.toList) := e3
        clear e3
        by_cases e1 : a1.toList = []
        · go_enter Trym.func3, Trym.ntmps3
          go_wp2_with fail
          refine HY.out.mono ?_
          rintro e w' ⟨rfl, rfl⟩
          go_wp2_with fail
          refine (of_self _ _ _).mono ?_
          rintro e w' ⟨rfl, rfl⟩
          go_wp2_with fail
          refine (of_other _ _ _ _ E3.out e0).mono ?_
          rintro e w' ⟨rfl, rfl⟩
          go_wp2_with fail
          refine (of_core _ _).mono ?_
          rintro e w' ⟨rfl, rfl⟩
          go_wp2_with fail
          go_ret
          exact ⟨rfl, Below.refl _ _⟩
        · have n1 : a1.toList.isEmpty = false := by simpa using e1
          go_enter Trym.func3, Trym.ntmps3
          go_wp2_with fail
          refine HY.out.mono ?_
          rintro e w' ⟨rfl, rfl⟩
          go_wp2_with fail
          refine (of_self _ _ _).mono ?_
          rintro e w' ⟨rfl, rfl⟩
          go_wp2_with fail
          refine (of_other _ _ _ _ E3.out e0).mono ?_
          rintro e w' ⟨rfl, rfl⟩
          go_wp2_with fail
          refine (of_core _ _).mono ?_
          rintro e w' ⟨rfl, rfl⟩
          go_wp2_with fail
          refine (of_none _ _ e1).mono ?_
          rintro e w' ⟨rfl, rfl⟩
          go_wp2_with fail
          go_ret
          exact ⟨rfl, Below.refl _ _⟩
  · have HY : Hid (Calls Trym.prog 7 #[.string a0, .string a1, .bool a2, .bool a3] w fun e w' => e = .returned (.bool false) ∧ w = w') := bytes_no a0 a1 a2 a3 w w0 w1 h
    clear w0 w1
    go_enter Trym.func3, Trym.ntmps3
    go_wp2_with fail
    refine HY.out.mono ?_
    rintro e w' ⟨rfl, rfl⟩
    go_wp2_with fail
    go_ret
    exact ⟨rfl, Below.refl _ _⟩

set_option maxRecDepth 100000 in
theorem lifted (os : Os) (started : os.Started) (H : Type) (enc : TypeId × Value → H) :
    ReturnsInHanded {} Trym.checked os 3 .any (Rows.fnOfCellNamedWriteHasOneOwnerSpec.pre6 enc Trym.prog Trym.f3 Rows.fnOfCellNamedWriteHasOneOwnerRow.domain false) (Rows.fnOfCellNamedWriteHasOneOwnerSpec.post enc Trym.prog Trym.f3 false true false false) := by
  refine returnsInHanded_of_change (C := Trym.checked) own started (by kernel_rfl) Trym.func3
    (ChangeSpec.witness6 (enc := enc) (C := Trym.checked) false ⟨#[], #[.string ByteArray.empty, .string ByteArray.empty, .bool false, .bool false], []⟩ 8 (by kernel_rfl) (by kernel_rfl) (by kernel_rfl) (by kernel_rfl)) ?_
  intro W base args ds gs before hval0 hW hcnd _
  have hval : ∀ (j : Nat) t v, Trym.f3.params[j]? = some t → args[j]? = some v → Value.okWide Trym.prog W .any base t v := hval0
  have hW' := hW
  obtain ⟨p, q, hA0, hV, rfl, hfz, hnd⟩ := hW
  have hA : DataW.TrodAll enc Trym.prog W 0 (fun _ => true) true Trym.f3.params.toList args.toList ds p := hA0
  rw [Trym.params3] at hA hval
  obtain ⟨v0, vs0, d0, ds0, p0, q0, hargs, rfl, rfl, h0, r0⟩ := trodAll_cons hA
  obtain ⟨v1, vs1, d1, ds1, p1, q1, rfl, rfl, rfl, h1, r1⟩ := trodAll_cons r0
  obtain ⟨v2, vs2, d2, ds2, p2, q2, rfl, rfl, rfl, h2, r2⟩ := trodAll_cons r1
  obtain ⟨v3, vs3, d3, ds3, p3, q3, rfl, rfl, rfl, h3, r3⟩ := trodAll_cons r2
  obtain ⟨rfl, rfl, rfl⟩ := trodAll_nil r3
  obtain rfl : args = #[v0, v1, v2, v3] := by cases args; simp_all
  obtain ⟨rfl, rfl⟩ := trodVars_none hV
  obtain ⟨a0, rfl, rfl, rfl, w0⟩ := open_string Trym.underlying9 (hval 0 9 v0 rfl rfl) h0
  obtain ⟨a1, rfl, rfl, rfl, w1⟩ := open_string Trym.underlying9 (hval 1 9 v1 rfl rfl) h1
  obtain ⟨a2, rfl, rfl, rfl⟩ := open_bool Trym.underlying4 (hval 2 4 v2 rfl rfl) h2
  obtain ⟨a3, rfl, rfl, rfl⟩ := open_bool Trym.underlying4 (hval 3 4 v3 rfl rfl) h3
  clear hA0 hval0
  refine (walk a0 a1 a2 a3 W w0 w1).mono fun e W' ⟨he, bel⟩ => ?_
  subst he
  exact ⟨_, rfl, _, _, _, [], _, [], hW', trodAll_mk1 (shut_bool Trym.underlying4 _), (trodAll_cons_mk (shut_string Trym.underlying9 w0) (trodAll_cons_mk (shut_string Trym.underlying9 w1) (trodAll_cons_mk (shut_bool Trym.underlying4 _) (trodAll_cons_mk (shut_bool Trym.underlying4 _) trodAll_mk0)))), rfl, bel.frame _, fun h => by cases h⟩

theorem over : Rows.fnOfCellNamedWriteHasOneOwnerRow.holds Trym.pinned (OpenSpec.ofChange Rows.fnOfCellNamedWriteHasOneOwnerSpec) :=
  OpenClaim.holds_of_wide 3 Trym.f3 rfl rfl rfl rfl rfl rfl rfl ⟨rfl, rfl, rfl, rfl, rfl⟩ rfl rfl rfl rfl rfl (by kernel_rfl) Trym.func3 (by kernel_rfl)
    (of_decide_eq_true (by kernel_rfl)) (by unfold Func.isWrapper; first | (rw [if_pos (by decide +kernel)]; kernel_rfl) | (rw [if_neg (by decide +kernel)]; exact ⟨rfl, rfl⟩))
    (fun os started H enc _ => lifted os started H enc)

/-- THE STATEMENT -/
theorem proved : Rows.FnOfCellNamedWriteHasOneOwnerSaid := over
#print axioms proved
end Go.Proofs.Qxb6605862aMods.fnOfCellNamedWriteHasOneOwner
