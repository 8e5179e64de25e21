/-
  THE WALK OF FnReserveLogsCountApart out of the contracts of what it calls.
-/
import Derived.Test.Qxb6616439aModsLog
namespace Go.Proofs.Qxb6616439aMods.log
open Go.ChangeShapes Go.WideShapes Go.ChangeAt Go.RowKit
theorem bytes9 (a : Option Addr) (n c : Nat) (x y z u : Int) (w : World) (h : n ≤ 1048576) :
    Calls Trym.prog 9 #[.int .i64 x, .int .i64 y, .int .i64 z, .int .i64 u, .slice a n c] w fun e w' => e = .returned (.bool true) ∧ w = w' := by
  go_enter Trym.func9, Trym.ntmps9
  go_wp2
  go_ret
  exact ⟨rfl, rfl⟩
theorem bytes9_no (a : Option Addr) (n c : Nat) (x y z u : Int) (w : World) (h : 1048576 < n) :
    Calls Trym.prog 9 #[.int .i64 x, .int .i64 y, .int .i64 z, .int .i64 u, .slice a n c] w fun e w' => e = .returned (.bool false) ∧ w = w' := by
  go_enter Trym.func9, Trym.ntmps9
  go_wp2
  go_ret
  exact ⟨rfl, rfl⟩

/-- How many of the first k are true; false. -/
def cntT (B : Nat → Bool) : Nat → Nat
  | 0 => 0
  | k + 1 => if B k then cntT B k + 1 else cntT B k
def cntF (B : Nat → Bool) : Nat → Nat
  | 0 => 0
  | k + 1 => if B k then cntF B k else cntF B k + 1
theorem cntT_le (B : Nat → Bool) (k : Nat) : cntT B k ≤ k := by induction k with | zero => exact Nat.le_refl _ | succ k ih => simp only [cntT]; split <;> omega
theorem cntF_le (B : Nat → Bool) (k : Nat) : cntF B k ≤ k := by induction k with | zero => exact Nat.le_refl _ | succ k ih => simp only [cntF]; split <;> omega

theorem cntT_yes {B : Nat → Bool} {k : Nat} (h : B k = true) : cntT B (k + 1) = cntT B k + 1 := by simp [cntT, h]
theorem cntF_yes {B : Nat → Bool} {k : Nat} (h : B k = true) : cntF B (k + 1) = cntF B k := by simp [cntF, h]
theorem cntT_no {B : Nat → Bool} {k : Nat} (h : B k = false) : cntT B (k + 1) = cntT B k := by simp [cntT, h]
theorem cntF_no {B : Nat → Bool} {k : Nat} (h : B k = false) : cntF B (k + 1) = cntF B k + 1 := by simp [cntF, h]

/-- Two logs at blocks h and h + 1. -/
abbrev Logs (wr : World) (h : Nat) (rA wA rB wB : Int) : Prop :=
  wr.cell? ⟨h, 2, none⟩ = some (.int .i64 rA) ∧ wr.frozen? ⟨h, 2, none⟩ = false ∧ wr.cell? ⟨h, 3, none⟩ = some (.int .i64 wA) ∧
  wr.cell? ⟨h + 1, 2, none⟩ = some (.int .i64 rB) ∧ wr.frozen? ⟨h + 1, 2, none⟩ = false ∧ wr.cell? ⟨h + 1, 3, none⟩ = some (.int .i64 wB)
theorem Logs.setA {wr : World} {h : Nat} {rA wA rB wB r : Int} (H : Logs wr h rA wA rB wB) : Logs (wr.setCell ⟨h, 2, none⟩ (.int .i64 r)) h r wA rB wB := by
  obtain ⟨a, b, c, d, e, f⟩ := H
  exact ⟨World.cell?_setCell_same _ _ _ a, by simpa using b, by rw [World.cell?_setCell_other _ _ _ _ (by simp)]; exact c, by rw [World.cell?_setCell_other _ _ _ _ (by simp)]; exact d, by simpa using e, by rw [World.cell?_setCell_other _ _ _ _ (by simp)]; exact f⟩
theorem Logs.setB {wr : World} {h : Nat} {rA wA rB wB r : Int} (H : Logs wr h rA wA rB wB) : Logs (wr.setCell ⟨h + 1, 2, none⟩ (.int .i64 r)) h rA wA r wB := by
  obtain ⟨a, b, c, d, e, f⟩ := H
  exact ⟨by rw [World.cell?_setCell_other _ _ _ _ (by simp)]; exact a, by simpa using b, by rw [World.cell?_setCell_other _ _ _ _ (by simp)]; exact c, World.cell?_setCell_same _ _ _ d, by simpa using e, by rw [World.cell?_setCell_other _ _ _ _ (by simp)]; exact f⟩

set_option maxHeartbeats 2000000 in
theorem apart (sA wA sB wB : Int) (ao : Option Addr) (n c : Nat) (B : Nat → Bool) (w : World) (hn : n ≤ 65536) (hA0 : 0 ≤ wA) (hA1 : wA ≤ sA) (hA2 : sA ≤ 9223372036854775807) (hB0 : 0 ≤ wB) (hB1 : wB ≤ sB) (hB2 : sB ≤ 9223372036854775807)
    (hc : ∀ j, j < n → ∃ xb xo, ao = some ⟨xb, xo, none⟩ ∧ xb < w.heap.size ∧ w.cell? ⟨xb, xo + j, none⟩ = some (.bool (B j))) :
    Calls Trym.prog 4 #[.int .i64 sA, .int .i64 wA, .int .i64 sB, .int .i64 wB, .slice ao n c] w fun e w' => e = .returned (.bool true) ∧ Below w.heap.size w w' := by
  have zA : pl sA 0 = sA := pl_zero (by omega) hA2
  have zB : pl sB 0 = sB := pl_zero (by omega) hB2
  have R0 : Logs ((w.alloc (.cells (lg sA wA) 40)).alloc (.cells (lg sB wB) 40)) w.heap.size (pl sA 0) wA (pl sB 0) wB := by
    rw [zA, zB]
    refine ⟨?_, ?_, ?_, ?_, ?_, ?_⟩ <;> go_simp
  have R1 : Below w.heap.size w ((w.alloc (.cells (lg sA wA) 40)).alloc (.cells (lg sB wB) 40)) := ((Below.refl _ _).alloc (Nat.le_refl _) _).alloc (by simp) _
  have HR : Hid (Logs ((w.alloc (.cells (lg sA wA) 40)).alloc (.cells (lg sB wB) 40)) w.heap.size (pl sA 0) wA (pl sB 0) wB) := R0
  have HC : Hid (∀ j, j < n → ∃ xb xo, ao = some ⟨xb, xo, none⟩ ∧ xb < w.heap.size ∧ w.cell? ⟨xb, xo + j, none⟩ = some (.bool (B j))) := hc
  clear zA zB hA2 hB2 hc R0
  go_enter Trym.func4, Trym.ntmps4
  go_wp2_with (first | (go_at_call 9; refine (bytes9 _ _ _ _ _ _ _ _ (by omega)).mono ?_; rintro e w' ⟨rfl, rfl⟩) | (go_at_call 6; refine (new_log _ _ _).mono ?_; rintro e w' ⟨rfl, rfl⟩))
  go_loopw [13, 14, 15] (fun na nb i wr => ∃ k : Nat, k ≤ n ∧ na = .int .i64 (cntT B k) ∧ nb = .int .i64 (cntF B k) ∧ i = .int .i64 k ∧ Logs wr w.heap.size (pl sA (cntT B k)) wA (pl sB (cntF B k)) wB ∧ Below w.heap.size w wr)
    (fun _ _ i _ => n - (intOf i).toNat)
  case atStart => exact ⟨0, Nat.zero_le _, rfl, rfl, rfl, HR.out, R1⟩
  case round =>
    obtain ⟨k, hk, rfl, rfl, rfl, hlogs, hbel⟩ := hrel
    have hT := cntT_le B k
    have hF := cntF_le B k
    by_cases hlt : k < n
    · obtain ⟨xb, xo, rfl, hxb, hcell⟩ := HC.out k hlt
      have hcr : wr.cell? ⟨xb, xo + k, none⟩ = some (.bool (B k)) := by rw [hbel.cell (by exact hxb)]; exact hcell
      clear hcell
      generalize hbk : B k = bk at hcr
      cases bk with
      | true =>
        have RA := cntT_yes hbk
        have RB := cntF_yes hbk
        have L1 := (hlogs.setA (r := pl sA (cntT B k + 1)))
        rw [← RA, ← RB] at L1
        have HL : Hid (Logs (wr.setCell ⟨w.heap.size, 2, none⟩ (.int .i64 (pl sA (cntT B (k + 1))))) w.heap.size (pl sA (cntT B (k + 1))) wA (pl sB (cntF B (k + 1))) wB) := L1
        have HA : Hid (cntT B (k + 1) = cntT B k + 1) := RA
        have HB : Hid (cntF B (k + 1) = cntF B k) := RB
        clear L1 RA RB hbk
        obtain ⟨l1, l2, l3, l4, l5, l6⟩ := hlogs
        generalize cntT B k = t at *
        generalize cntF B k = f at *
        have hpl : pl sA t = wrap64 (sA + t) := rfl
        go_wp2_with (go_at_call 7; refine (reserve_pl sA t _ _ (by assumption) (by assumption)).mono ?_; rintro e w' ⟨rfl, rfl⟩)
        go_roundw
        case rel => exact ⟨k + 1, by omega, by rw [HA.out]; go_num, by rw [HB.out], by go_num, by have := HL.out; rw [HA.out] at this ⊢; exact this, hbel.setCell (Nat.le_refl _) _⟩
        case measure => simp [intOf]; omega
      | false =>
        have RA := cntT_no hbk
        have RB := cntF_no hbk
        have L1 := (hlogs.setB (r := pl sB (cntF B k + 1)))
        rw [← RA, ← RB] at L1
        have HL : Hid (Logs (wr.setCell ⟨w.heap.size + 1, 2, none⟩ (.int .i64 (pl sB (cntF B (k + 1))))) w.heap.size (pl sA (cntT B (k + 1))) wA (pl sB (cntF B (k + 1))) wB) := L1
        have HA : Hid (cntT B (k + 1) = cntT B k) := RA
        have HB : Hid (cntF B (k + 1) = cntF B k + 1) := RB
        clear L1 RA RB hbk
        obtain ⟨l1, l2, l3, l4, l5, l6⟩ := hlogs
        generalize cntT B k = t at *
        generalize cntF B k = f at *
        have hpl : pl sB f = wrap64 (sB + f) := rfl
        go_wp2_with (go_at_call 7; refine (reserve_pl sB f _ _ (by assumption) (by assumption)).mono ?_; rintro e w' ⟨rfl, rfl⟩)
        go_roundw
        case rel => exact ⟨k + 1, by omega, by rw [HA.out], by rw [HB.out]; go_num, by go_num, by have := HL.out; rw [HB.out] at this ⊢; exact this, hbel.setCell (by simp) _⟩
        case measure => simp [intOf]; omega
    · obtain rfl : k = n := by omega
      obtain ⟨l1, l2, l3, l4, l5, l6⟩ := hlogs
      generalize cntT B k = t at *
      generalize cntF B k = f at *
      have hpl : pl sA t = wrap64 (sA + t) := rfl
      have hpl' : pl sB f = wrap64 (sB + f) := rfl
      go_wp2_with (first | (go_at_call 8; refine (reserved_of _ _ _ (by assumption)).mono ?_; rintro e w' ⟨rfl, rfl⟩) | (go_at_call 10; refine (written_of _ _ _ (by assumption)).mono ?_; rintro e w' ⟨rfl, rfl⟩))
      go_ret
      exact ⟨rfl, hbel⟩
end Go.Proofs.Qxb6616439aMods.log
