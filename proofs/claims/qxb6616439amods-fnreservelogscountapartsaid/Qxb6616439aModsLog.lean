import Derived.Test.Qxb6616439aModsRows
import Derived.WalkKit
import Derived.WalkLawsBesides
import Derived.ProofKit
namespace Go.Proofs.Qxb6616439aMods.log
open Go.ChangeShapes Go.WideShapes Go.ChangeAt Go.RowKit
/-- The cells of a crawlLog that bears its two counts alone. -/
abbrev lg (r n : Int) : Array Value := #[.string ⟨#[]⟩, .pointer none, .int .i64 r, .int .i64 n, .map none]
theorem new_log (r n : Int) (w : World) :
    Calls Trym.prog 6 #[.int .i64 r, .int .i64 n] w fun e w' => e = .returned (.pointer (some ⟨w.heap.size, 0, none⟩)) ∧ w' = w.alloc (.cells (lg r n) 40) := by
  go_enter Trym.func6, Trym.ntmps6
  go_wp2
  go_ret
  exact ⟨rfl, rfl⟩
theorem reserved_of (r : Int) (b : Nat) (w : World) (hc : w.cell? ⟨b, 2, none⟩ = some (.int .i64 r)) :
    Calls Trym.prog 8 #[.pointer (some ⟨b, 0, none⟩)] w fun e w' => e = .returned (.int .i64 r) ∧ w' = w := by
  go_enter Trym.func8, Trym.ntmps8
  go_wp2
  go_ret
  exact ⟨rfl, rfl⟩
theorem written_of (r : Int) (b : Nat) (w : World) (hc : w.cell? ⟨b, 3, none⟩ = some (.int .i64 r)) :
    Calls Trym.prog 10 #[.pointer (some ⟨b, 0, none⟩)] w fun e w' => e = .returned (.int .i64 r) ∧ w' = w := by
  go_enter Trym.func10, Trym.ntmps10
  go_wp2
  go_ret
  exact ⟨rfl, rfl⟩
theorem reserve (r : Int) (b : Nat) (w : World) (hc : w.cell? ⟨b, 2, none⟩ = some (.int .i64 r)) (hf : w.frozen? ⟨b, 2, none⟩ = false) :
    Calls Trym.prog 7 #[.pointer (some ⟨b, 0, none⟩)] w fun e w' => e = .returned (.int .i64 (wrap64 (wrap64 (r + 1) - 1))) ∧ w' = w.setCell ⟨b, 2, none⟩ (.int .i64 (wrap64 (r + 1))) := by
  go_enter Trym.func7, Trym.ntmps7
  go_wp2
  go_ret
  exact ⟨rfl, rfl⟩

/-- The place that a log of 'start' hands out behind k others. -/
def pl (s : Int) (k : Nat) : Int := wrap64 (s + k)
theorem pl_next (s : Int) (k : Nat) : wrap64 (pl s k + 1) = pl s (k + 1) := by
  unfold pl wrap64; omega
theorem pl_back (s : Int) (k : Nat) : wrap64 (pl s (k + 1) - 1) = pl s k := by
  unfold pl wrap64; omega
theorem pl_zero {s : Int} (h0 : -9223372036854775808 ≤ s) (h1 : s ≤ 9223372036854775807) : pl s 0 = s := by
  unfold pl wrap64; omega
theorem reserve_pl (s : Int) (k : Nat) (b : Nat) (w : World) (hc : w.cell? ⟨b, 2, none⟩ = some (.int .i64 (pl s k))) (hf : w.frozen? ⟨b, 2, none⟩ = false) :
    Calls Trym.prog 7 #[.pointer (some ⟨b, 0, none⟩)] w fun e w' => e = .returned (.int .i64 (pl s k)) ∧ w' = w.setCell ⟨b, 2, none⟩ (.int .i64 (pl s (k + 1))) :=
  (reserve (pl s k) b w hc hf).mono fun e w' ⟨he, hw⟩ => ⟨by rw [he, pl_next, pl_back], by rw [hw, pl_next]⟩
end Go.Proofs.Qxb6616439aMods.log
