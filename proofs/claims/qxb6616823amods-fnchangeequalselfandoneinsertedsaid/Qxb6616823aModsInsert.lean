/-
  THE CONTRACTS OF zzFlipEmpty AND OF zzInsertAt.
-/
import Derived.Test.Qxb6616823aModsRepl
import Derived.Maps.AppendAt
namespace Go.Proofs.Qxb6616823aMods.lists
open Go.ChangeShapes Go.WideShapes Go.ChangeAt Go.RowKit Go.Deep

/-! ### zzFlipEmpty -/
theorem flip_nil (w : World) (n c : Nat) :
    Calls Trym.prog 8 #[.slice none n c] w fun e w' => e = .returned (.slice (some ⟨w.heap.size, 0, none⟩) 0 0) ∧ w' = w.alloc (.cells #[] 9) := by
  have hn := fun (w : World) (a : Option Addr) (n c : Nat) => Lib.run_eql_slice_nil (P := Trym.prog) w 22 9 a n c 0 0 Trym.underlying22
  go_enter Trym.func8, Trym.ntmps8
  go_wp2
  go_ret
  exact ⟨rfl, rfl⟩
theorem flip_empty (w : World) (x : Addr) (c : Nat) :
    Calls Trym.prog 8 #[.slice (some x) 0 c] w fun e w' => e = .returned (.slice none 0 0) ∧ w' = w := by
  have hn := fun (w : World) (a : Option Addr) (n c : Nat) => Lib.run_eql_slice_nil (P := Trym.prog) w 22 9 a n c 0 0 Trym.underlying22
  go_enter Trym.func8, Trym.ntmps8
  go_wp2
  go_ret
  exact ⟨rfl, rfl⟩
theorem flip_full (w : World) (x : Addr) (n c : Nat) (xs : List ByteArray) (hs : Src w (some x) n xs) (hb : n ≤ 1048576) (h0 : 0 < n) :
    Calls Trym.prog 8 #[.slice (some x) n c] w fun e w' => e = .returned (.slice (some ⟨w.heap.size, 0, none⟩) n n) ∧ Own w' w.heap.size (some ⟨w.heap.size, 0, none⟩) n n xs ∧ Below w.heap.size w w' := by
  have hn := fun (w : World) (a : Option Addr) (n c : Nat) => Lib.run_eql_slice_nil (P := Trym.prog) w 22 9 a n c 0 0 Trym.underlying22
  have HS : Hid (Src w (some x) n xs) := hs
  clear hs
  go_enter Trym.func8, Trym.ntmps8
  go_wp2_with fail
  refine (clone_some w x n c xs HS.out hb).mono ?_
  rintro e w' ⟨rfl, h1, h2⟩
  go_wp2_with fail
  go_ret
  exact ⟨rfl, h1, h2⟩
/-- zzFlipEmpty: a list with the same elements. -/
theorem flip_any (w : World) (ao : Option Addr) (n c : Nat) (xs : List ByteArray) (hs : Src w ao n xs) (hb : n ≤ 1048576) :
    Calls Trym.prog 8 #[.slice ao n c] w fun e w' => ∃ ao' c', e = .returned (.slice ao' n c') ∧ Src w' ao' n xs ∧ Below w.heap.size w w' := by
  rcases ao with _ | x
  · obtain rfl := hs.2.1 rfl
    refine (flip_nil w 0 c).mono fun e w' ⟨he, hw⟩ => ⟨_, _, he, ⟨hs.1, fun _ => rfl, fun _ _ j hj => absurd hj (Nat.not_lt_zero _)⟩, ?_⟩
    subst hw; exact (Below.refl _ _).alloc (Nat.le_refl _) _
  · rcases Nat.eq_zero_or_pos n with rfl | h0
    · refine (flip_empty w x c).mono fun e w' ⟨he, hw⟩ => ⟨_, _, he, ⟨hs.1, fun _ => rfl, fun _ _ j hj => absurd hj (Nat.not_lt_zero _)⟩, ?_⟩
      subst hw; exact Below.refl _ _
    · exact (flip_full w x n c xs hs hb h0).mono fun e w' ⟨he, h1, h2⟩ => ⟨_, _, he, Src.of_owns h1, h2⟩

/-! ### zzInsertAt -/
/-- What has been gathered: behind j rounds of the first loop; behind the middle and the second loop up to j. -/
def outA (xs : List ByteArray) (j : Nat) : List Value := (xs.take j).map Value.string
def outB (xs : List ByteArray) (k : Nat) (s : ByteArray) (j : Nat) : List Value := (xs.take k ++ s :: (xs.take j).drop k).map Value.string
theorem outA_zero (xs : List ByteArray) : outA xs 0 = [] := rfl
theorem outA_succ (xs : List ByteArray) (j : Nat) (hj : j < xs.length) : outA xs j ++ [Value.string (xs.getD j ByteArray.empty)] = outA xs (j + 1) := by
  unfold outA
  rw [List.take_succ_eq_append_getElem hj, List.map_append, List.map_cons, List.map_nil, List.getD, List.getElem?_eq_getElem hj]
  rfl
theorem outB_start (xs : List ByteArray) (k : Nat) (s : ByteArray) : outA xs k ++ [Value.string s] = outB xs k s k := by
  unfold outA outB
  rw [List.drop_of_length_le (by simp; omega), List.map_append, List.map_cons, List.map_nil]
theorem outB_succ (xs : List ByteArray) (k : Nat) (s : ByteArray) (j : Nat) (hk : k ≤ j) (hj : j < xs.length) : outB xs k s j ++ [Value.string (xs.getD j ByteArray.empty)] = outB xs k s (j + 1) := by
  unfold outB
  rw [List.take_succ_eq_append_getElem hj, List.drop_append_of_le_length (by simp; omega), ← List.cons_append, ← List.append_assoc, List.map_append (l₂ := [xs[j]]), List.map_cons, List.map_nil, List.getD, List.getElem?_eq_getElem hj]
  rfl
theorem outB_end (xs : List ByteArray) (k : Nat) (s : ByteArray) : outB xs k s xs.length = (xs.take k ++ s :: xs.drop k).map Value.string := by
  unfold outB; rw [List.take_of_length_le (Nat.le_refl _)]
theorem string_one (x : ByteArray) : ∀ u ∈ [Value.string x], u.oneCell' = true := by
  intro u hu; simp at hu; subst hu; rfl

set_option maxRecDepth 100000 in
set_option maxHeartbeats 4000000 in
theorem insert_any (w : World) (ao : Option Addr) (n c k : Nat) (xs : List ByteArray) (s : ByteArray) (hs : Src w ao n xs) (hn : n ≤ 65536) (hk : k ≤ n) :
    Calls Trym.prog 9 #[.slice ao n c, .int .i64 (k : Int), .string s] w fun e w' => ∃ v, e = .returned v ∧ w'.ownsRow w.heap.size 9 1 v (n + 1) ((xs.take k ++ s :: xs.drop k).map Value.string) ∧ Below w.heap.size w w' := by
  have hxl := hs.1
  have HS : Hid (Src w ao n xs) := hs
  have HL : Hid (xs.length = n) := hxl
  clear hs hxl
  obtain ⟨i0, hi, hz0, hz1, hz2⟩ := info_parts Trym.info9
  have hk' : (k : Int) ≤ (n : Int) := by omega
  go_enter Trym.func9, Trym.ntmps9
  go_wp2_with (at_make; refine wpList_make_own _ rfl _ _ 22 rfl w.heap.size 9 i0 (.string ByteArray.empty) 1 Trym.underlying22 hi hz0 hz1 .i64 .i64 _ (n + 1) rfl rfl (by omega) (by rw [hz2]; omega) (by unfold maxLen; omega) (Nat.le_refl _) ?_; intro w0 hown0 hgr0)
  have hbel0 : Below w.heap.size w w0 := (Below.refl _ _).grown hgr0 (Nat.le_refl _) (fun k e => by simp at e)
  clear hgr0
  go_loopw [7, 8] (fun v i wr => ∃ j : Nat, j ≤ k ∧ i = .int .i64 j ∧ wr.ownsRow w.heap.size 9 1 v j (outA xs j) ∧ Below w.heap.size w wr) (fun _ i _ => k - (intOf i).toNat)
  case atStart => exact ⟨0, Nat.zero_le _, rfl, by rw [outA_zero]; exact hown0, hbel0⟩
  case round =>
    clear hown0 hbel0
    obtain ⟨j, hj, rfl, hown, hbel⟩ := hrel
    by_cases hlt : j < k
    · obtain ⟨b, o, e1, hb, g1⟩ := HS.out.at (k := j) (by omega)
      subst e1
      have g2 : wr.cell? ⟨b, o + j, none⟩ = some (.string (xs.getD j ByteArray.empty)) := by rw [hbel.cell (by exact hb)]; exact g1
      have T : Hid (outA xs j ++ [Value.string (xs.getD j ByteArray.empty)] = outA xs (j + 1)) := outA_succ xs j (by rw [HL.out]; omega)
      clear g1
      generalize xs.getD j ByteArray.empty = x at g2 T
      have hsz := hbel.size
      go_wp2_with (at_builtin; refine wpList_append_own _ rfl (.tmp 19) (.tmp 24) 22 rfl w.heap.size 9 i0 (.string ByteArray.empty) 1 16 Trym.underlying22 hi hz0 hz1 hz2 rfl (by decide) _ _ _ rfl (hown.alloc _) ⟨wr.heap.size, 0, none⟩ 1 1 [.string x] rfl rfl (cell_one_new _ _ _) (string_one x) (by unfold maxLen; omega) (by omega) (by simp; omega) ?_; intro v' w1 hown' hgrow _)
      rw [T.out] at hown'
      have hbel' : Below w.heap.size w w1 := (hbel.alloc hsz _).grown hgrow (by simp; omega) (fun q e => (hown.lt q e).1)
      clear hgrow hown hbel g2 T
      go_roundw
      case rel => exact ⟨j + 1, by omega, by go_num, hown', hbel'⟩
      case measure => simp [intOf]; omega
    · obtain rfl : j = k := by omega
      have T : Hid (outA xs j ++ [Value.string s] = outB xs j s j) := outB_start xs j s
      have hsz := hbel.size
      go_wp2_with (at_builtin; refine wpList_append_own _ rfl (.tmp 26) (.tmp 28) 22 rfl w.heap.size 9 i0 (.string ByteArray.empty) 1 16 Trym.underlying22 hi hz0 hz1 hz2 rfl (by decide) _ _ _ rfl (hown.alloc _) ⟨wr.heap.size, 0, none⟩ 1 1 [.string s] rfl rfl (cell_one_new _ _ _) (string_one s) (by unfold maxLen; omega) (by omega) (by simp; omega) ?_; intro v' w1 hown' hgrow _)
      rw [T.out] at hown'
      have hbel' : Below w.heap.size w w1 := (hbel.alloc hsz _).grown hgrow (by simp; omega) (fun q e => (hown.lt q e).1)
      clear hgrow hown hbel T hsz
      go_loopw [7, 9] (fun v i wr => ∃ q : Nat, j ≤ q ∧ q ≤ n ∧ i = .int .i64 q ∧ wr.ownsRow w.heap.size 9 1 v (q + 1) (outB xs j s q) ∧ Below w.heap.size w wr) (fun _ i _ => n - (intOf i).toNat)
      case atStart => exact ⟨j, Nat.le_refl _, hk, rfl, hown', hbel'⟩
      case round =>
        clear hown' hbel'
        obtain ⟨q, hq0, hq, rfl, hown, hbel⟩ := hrel
        have hsz := hbel.size
        by_cases hlt : q < n
        · obtain ⟨b, o, e1, hb, g1⟩ := HS.out.at (k := q) (by omega)
          subst e1
          have g2 : wr.cell? ⟨b, o + q, none⟩ = some (.string (xs.getD q ByteArray.empty)) := by rw [hbel.cell (by exact hb)]; exact g1
          have T : Hid (outB xs j s q ++ [Value.string (xs.getD q ByteArray.empty)] = outB xs j s (q + 1)) := outB_succ xs j s q hq0 (by rw [HL.out]; omega)
          clear g1
          generalize xs.getD q ByteArray.empty = x at g2 T
          go_wp2_with (at_builtin; refine wpList_append_own _ rfl (.tmp 37) (.tmp 42) 22 rfl w.heap.size 9 i0 (.string ByteArray.empty) 1 16 Trym.underlying22 hi hz0 hz1 hz2 rfl (by decide) _ _ _ rfl (hown.alloc _) ⟨wr.heap.size, 0, none⟩ 1 1 [.string x] rfl rfl (cell_one_new _ _ _) (string_one x) (by unfold maxLen; omega) (by omega) (by simp; omega) ?_; intro v' w1 hown' hgrow _)
          rw [T.out] at hown'
          have hbel' : Below w.heap.size w w1 := (hbel.alloc hsz _).grown hgrow (by simp; omega) (fun q e => (hown.lt q e).1)
          clear hgrow hown hbel g2 T
          go_roundw
          case rel => exact ⟨q + 1, by omega, by omega, by go_num, hown', hbel'⟩
          case measure => simp [intOf]; omega
        · obtain rfl : q = n := by omega
          go_wp2
          go_ret
          refine ⟨_, rfl, ?_, hbel⟩
          rw [← outB_end, HL.out]
          exact hown
end Go.Proofs.Qxb6616823aMods.lists
