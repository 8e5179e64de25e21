import Derived.Test.Qxb6616439aModsRows
import Derived.WalkKit
import Derived.WalkLawsBesides
import Derived.ProofKit
import Derived.Outline
import Derived.Deep.RegionHeld3
namespace Go.Proofs.Qxb6616439aMods.fnRetriesBudgetIsMaxRetries
open Go.ChangeShapes Go.WideShapes Go.ChangeAt Go.RowKit

/-- A store of a float into one cell: the walk's set has none. -/
theorem run_store_float {P : Program} {w : World} {a : Addr} {m : Mode} (k : FloatKind) (b : Nat) : (store a (.float k b) m).run P w = stored P w a (.float k b) m := run_store P w a _ m rfl
attribute [local go_sem] run_store_float

/-- A Politeness by value. -/
abbrev pol (f : Nat) (a1 a2 a3 m a5 : Int) : Array Value := #[.float .f64 f, .int .i64 a1, .int .i64 a2, .int .i64 a3, .int .i64 m, .int .i64 a5]

theorem new_pol (f : Nat) (a1 a2 a3 m a5 : Int) (w : World) :
    Calls Trym.prog 11 #[.float .f64 f, .int .i64 a1, .int .i64 a2, .int .i64 a3, .int .i64 m, .int .i64 a5] w fun e w' =>
      e = .returned (.agg (pol f a1 a2 a3 m a5)) ∧ w' = w.alloc (.cells (pol f a1 a2 a3 m a5) 31) := by
  go_enter Trym.func11, Trym.ntmps11
  go_wp2
  exact bodyPost_ret (v := .agg (pol f a1 a2 a3 m a5)) (by simp [results, Trym.results11, go_sem]) rfl ⟨rfl, rfl⟩

theorem retries_nil (f : Nat) (a1 a2 a3 m a5 t : Int) (w : World) :
    Calls Trym.prog 12 #[.agg (pol f a1 a2 a3 m a5), .int .i64 t, .pointer none] w fun e w' =>
      e = .returned (.bool (decide (t < m))) ∧ w' = w.alloc (.cells (pol f a1 a2 a3 m a5) 31) := by
  by_cases h : t < m
  · go_enter Trym.func12, Trym.ntmps12
    go_wp2
    go_ret
    exact ⟨by simp [h], rfl⟩
  · go_enter Trym.func12, Trym.ntmps12
    go_wp2
    go_ret
    exact ⟨by simp [h], rfl⟩
/-- The cells of a fetch.Exchange that bears a status alone. -/
abbrev exc (s : Int) : Array Value :=
  #[.int .u64 0, .int .i64 0, .pointer none, .string ⟨#[]⟩, .int .i64 s, .map none, .pointer none, .pointer none, .int .i64 0, .string ⟨#[]⟩, .string ⟨#[]⟩, .pointer none]

theorem new_ex (s : Int) (w : World) :
    Calls Trym.prog 13 #[.int .i64 s] w fun e w' => e = .returned (.pointer (some ⟨w.heap.size, 0, none⟩)) ∧ w' = w.alloc (.cells (exc s) 51) := by
  go_enter Trym.func13, Trym.ntmps13
  go_wp2
  go_ret
  exact ⟨rfl, rfl⟩

/-- What Retries answers for a status s. -/
def retB (t m s : Int) : Bool := decide (t < m) && (wrap64 (s.tdiv 100) == 5 || s == 429)
theorem ret_bool {a b : Bool} (h : a = b) : Ending.returned (.bool a) = .returned (.bool b) := by rw [h]
theorem retB_no {t m s : Int} (h : m ≤ t) : false = retB t m s := by simp [retB, Int.not_lt.2 h]
theorem retB_five {t m s : Int} (h : t < m) (k : wrap64 (s.tdiv 100) = 5) : true = retB t m s := by simp [retB, h, k]
theorem retB_yes {t m s : Int} (h : t < m) : (wrap64 (s.tdiv 100) == 5 || s == 429) = retB t m s := by simp [retB, h]

theorem retries_ex (f : Nat) (a1 a2 a3 m a5 t s : Int) (b : Nat) (w : World) (hb : b < w.heap.size) (hc : w.cell? ⟨b, 4, none⟩ = some (.int .i64 s)) :
    Calls Trym.prog 12 #[.agg (pol f a1 a2 a3 m a5), .int .i64 t, .pointer (some ⟨b, 0, none⟩)] w fun e w' =>
      e = .returned (.bool (retB t m s)) ∧ w' = w.alloc (.cells (pol f a1 a2 a3 m a5) 31) := by
  by_cases h : t < m
  · go_enter Trym.func12, Trym.ntmps12
    go_wp2
    · go_ret
      exact ⟨ret_bool (retB_five h ‹_›), rfl⟩
    · go_ret
      exact ⟨ret_bool (retB_yes h), rfl⟩
  · go_enter Trym.func12, Trym.ntmps12
    go_wp2
    go_ret
    exact ⟨ret_bool (retB_no h), rfl⟩

end Go.Proofs.Qxb6616439aMods.fnRetriesBudgetIsMaxRetries
