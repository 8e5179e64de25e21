/-
  THE CONTRACTS OF zzBytes AND OF OfCell.
-/
import Derived.Test.Qxb6605862aModsRows
import Derived.WalkKit
import Derived.WalkLawsBesides
import Derived.WalkSpells
import Derived.ProofKit
import Derived.Lib.SlicesS
namespace Go.Proofs.Qxb6605862aMods.cell
open Go.ChangeShapes Go.WideShapes Go.ChangeAt Go.RowKit
theorem ret_bool {a b : Bool} (h : a = b) : Ending.returned (.bool a) = .returned (.bool b) := by rw [h]
theorem bytes7 (a b : ByteArray) (c d : Bool) (w : World) (ha : a.size ≤ maxLen) (hb : b.size ≤ maxLen) :
    Calls Trym.prog 7 #[.string a, .string b, .bool c, .bool d] w fun e w' => e = .returned (.bool (decide (a.size + b.size ≤ 1048576))) ∧ w = w' := by
  unfold maxLen at ha hb
  by_cases h1 : 1048576 < a.size
  · go_enter Trym.func7, Trym.ntmps7
    go_wp2
    go_ret
    exact ⟨ret_bool (decide_eq_false (by omega)).symm, rfl⟩
  by_cases h2 : 1048576 < b.size
  · go_enter Trym.func7, Trym.ntmps7
    go_wp2
    go_ret
    exact ⟨ret_bool (decide_eq_false (by omega)).symm, rfl⟩
  by_cases h3 : 1048576 < a.size + b.size
  · go_enter Trym.func7, Trym.ntmps7
    go_wp2
    go_ret
    exact ⟨ret_bool (decide_eq_false (by omega)).symm, rfl⟩
  · go_enter Trym.func7, Trym.ntmps7
    go_wp2
    go_ret
    exact ⟨ret_bool (decide_eq_true (by omega)).symm, rfl⟩
theorem of_cell (a b : ByteArray) (c : Bool) (w : World) :
    Calls Trym.prog 8 #[.string a, .string b, .bool c] w fun e w' => e = .returned (.bool (a.toList == b.toList || (a.toList.isEmpty && c))) ∧ w = w' := by
  go_enter Trym.func8, Trym.ntmps8
  go_wp2
  all_goals
    go_ret
    exact ⟨ret_bool (by simp_all), rfl⟩
theorem of_self (a : ByteArray) (c : Bool) (w : World) : Calls Trym.prog 8 #[.string a, .string a, .bool c] w fun e w' => e = .returned (.bool true) ∧ w = w' :=
  (of_cell a a c w).mono fun e w' ⟨he, hw⟩ => ⟨by rw [he]; simp, hw⟩
theorem of_other (a b : ByteArray) (c : Bool) (w : World) (h1 : ¬ a.toList = b.toList) (h2 : ¬ a.toList = []) : Calls Trym.prog 8 #[.string a, .string b, .bool c] w fun e w' => e = .returned (.bool false) ∧ w = w' :=
  (of_cell a b c w).mono fun e w' ⟨he, hw⟩ => ⟨by rw [he]; exact ret_bool (by simp [h1, h2]), hw⟩
theorem of_core (b : ByteArray) (w : World) : Calls Trym.prog 8 #[.string ⟨#[]⟩, .string b, .bool true] w fun e w' => e = .returned (.bool true) ∧ w = w' :=
  (of_cell ⟨#[]⟩ b true w).mono fun e w' ⟨he, hw⟩ => ⟨by rw [he]; exact ret_bool (by simp), hw⟩
theorem of_none (b : ByteArray) (w : World) (h : ¬ b.toList = []) : Calls Trym.prog 8 #[.string ⟨#[]⟩, .string b, .bool false] w fun e w' => e = .returned (.bool false) ∧ w = w' :=
  (of_cell ⟨#[]⟩ b false w).mono fun e w' ⟨he, hw⟩ => ⟨by rw [he]; exact ret_bool (by simp [h]), hw⟩
end Go.Proofs.Qxb6605862aMods.cell
