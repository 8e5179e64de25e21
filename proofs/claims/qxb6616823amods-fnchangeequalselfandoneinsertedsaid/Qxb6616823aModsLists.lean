/-
  THE CONTRACTS OF WHAT THE TWO LAWS ON change.equal CALL: zzCloneList, zzAddStrings, slices.Equal at []string, change.equal, ZZchangeEqual.
-/
import Derived.Test.Qxb6616823aModsRows
import Derived.WalkKit
import Derived.WalkLawsBesides
import Derived.WalkSpells
import Derived.ProofKit
import Derived.Deep.OwnRows
import Derived.Deep.LoopGhost
import Derived.Lib.SliceRun
import Derived.Lib.Slices
import Derived.Lib.SlicesS
import Derived.Laws.CopyOwn
import Derived.RegionTactic
namespace Go.Proofs.Qxb6616823aMods.lists
open Go.ChangeShapes Go.WideShapes Go.ChangeAt Go.RowKit Go.Deep
theorem Trym.info9 : (Trym.prog.info? 9).map (fun i => (i.zero, i.size, i.bytes)) = some (some (.string ByteArray.empty), 1, 16) := by kernel_rfl
theorem Trym.size9 : (Trym.prog.info? 9).map (·.size) = some 1 := by kernel_rfl

/-- What a slice of strings that is only read must be: nil (then empty), or its elements lie at its address. -/
def Src (w : World) (ao : Option Addr) (n : Nat) (xs : List ByteArray) : Prop :=
  xs.length = n ∧ (ao = none → n = 0) ∧ ∀ x, ao = some x → ∀ j, j < n → w.cell? (x.add j) = some (.string (xs.getD j ByteArray.empty))

/-- A slice of strings of the call's own. -/
abbrev Own (w : World) (base : Nat) (ao : Option Addr) (n c : Nat) (xs : List ByteArray) : Prop := w.ownsRow base 9 1 (.slice ao n c) n (xs.map Value.string)

theorem owns_head {w : World} {base n c : Nat} {ao : Option Addr} {xs : List Value} (h : w.ownsRow base 9 1 (.slice ao n c) n xs) (hn : 0 < n) : ∃ g, ao = some ⟨g, 0, none⟩ := by
  rcases h.2 with ⟨_, h2⟩ | ⟨g, cap, cur, h2, _⟩
  · omega
  · simp only [Value.slice.injEq] at h2
    exact ⟨g, h2.1⟩

theorem Src.of_owns {w : World} {base n c : Nat} {ao : Option Addr} {xs : List ByteArray} (h : Own w base ao n c xs) : Src w ao n xs := by
  have hl : xs.length = n := by simpa using h.1
  refine ⟨hl, ?_, ?_⟩
  · intro e
    rcases h.2 with ⟨_, h2⟩ | ⟨g, cap, cur, h2, _⟩
    · exact h2
    · simp [e] at h2
  · intro x e j hj
    obtain ⟨g, hg⟩ := owns_head h (by omega)
    obtain rfl : x = ⟨g, 0, none⟩ := by simpa [e] using hg
    subst e
    rw [add_plain, Nat.zero_add, h.cellAt j (by omega)]
    simp [hl, hj]

/-- In the round: the address and the cell. -/
theorem Src.at {w : World} {ao : Option Addr} {n : Nat} {xs : List ByteArray} (h : Src w ao n xs) {k : Nat} (hk : k < n) :
    ∃ b o, ao = some ⟨b, o, none⟩ ∧ b < w.heap.size ∧ w.cell? ⟨b, o + k, none⟩ = some (.string (xs.getD k ByteArray.empty)) := by
  obtain ⟨_, h0, hc⟩ := h
  rcases ao with _ | x
  · have := h0 rfl; omega
  · have hc0 := hc x rfl 0 (by omega)
    have hck := hc x rfl k hk
    have hsp := World.cell?_spot hc0
    have hbk := World.block_lt_of_cell? w _ hc0
    obtain ⟨xb, xo, xsp⟩ := x
    obtain rfl : xsp = none := by simpa [Addr.add] using hsp
    rw [add_plain] at hck
    exact ⟨xb, xo, rfl, by simpa [Addr.add] using hbk, hck⟩
theorem Src.since {w w' : World} {ao : Option Addr} {n : Nat} {xs : List ByteArray} (h : Src w ao n xs) (hb : Below w.heap.size w w') : Src w' ao n xs := by
  refine ⟨h.1, h.2.1, fun x e j hj => ?_⟩
  have hj' := h.2.2 x e j hj
  rw [hb.cell (World.block_lt_of_cell? w _ hj')]
  exact hj'

/-- zzCloneList at nil. -/
theorem clone_nil (w : World) (n c : Nat) :
    Calls Trym.prog 7 #[.slice none n c] w fun e w' => e = .returned (.slice none 0 0) ∧ w' = w := by
  have hn := fun (w : World) (a : Option Addr) (n c : Nat) => Lib.run_eql_slice_nil (P := Trym.prog) w 22 9 a n c 0 0 Trym.underlying22
  go_enter Trym.func7, Trym.ntmps7
  go_wp2
  go_ret
  exact ⟨rfl, rfl⟩

theorem own_of_heap {w : World} {base g n : Nat} {xs : List ByteArray} (hg : w.heap[g]? = some (.cells (xs.map Value.string).toArray 9 (0, 0))) (hb : base ≤ g) (hl : xs.length = n) (hn : n ≤ 1048576) :
    Own w base (some ⟨g, 0, none⟩) n n xs :=
  ⟨by simp [hl], .inr ⟨g, n, _, rfl, hb, hg, Nat.le_refl _, by unfold maxLen; omega, by simp [hl], List.take_of_length_le (by simp [hl])⟩⟩

/-- 'zzc := make([]string, n); copy(zzc, xs)': the row behind it. -/
theorem copied (w : World) (x : Addr) (n c : Nat) (xs : List ByteArray) (hs : Src w (some x) n xs) (hb : n ≤ 1048576) :
    ∃ v W, (Builtin.copy_ #[22, 22] 3 #[.slice (some ⟨w.heap.size, 0, none⟩) n n, .slice (some x) n c]).run Trym.prog (w.alloc (.cells (madeCells #[.string ByteArray.empty] n) 9)) = .ok v W ∧
      Own W w.heap.size (some ⟨w.heap.size, 0, none⟩) n n xs ∧ Below w.heap.size w W := by
  have hl := hs.1
  have hsrc : ∀ j v, (xs.map Value.string)[j]? = some v → (w.alloc (.cells (madeCells #[Value.string ByteArray.empty] n) 9)).cell? (x.add j) = some v := by
    intro j v hj
    have hjn : j < n := by have := (List.getElem?_eq_some_iff.1 hj).1; simpa [hl] using this
    have h1 := hs.2.2 x rfl j hjn
    rw [World.cell?_alloc_lt _ _ _ (World.block_lt_of_cell? w _ h1), h1, ← hj]
    simp [hl, hjn]
  have h1 : ∀ v ∈ xs.map Value.string, v.oneCell' = true := by
    intro v hv
    obtain ⟨s, _, rfl⟩ := List.mem_map.1 hv
    rfl
  have hg := heap_alloc_new w (.cells (madeCells #[Value.string ByteArray.empty] n) 9)
  have hr := run_copy_row (P := Trym.prog) (w.alloc (.cells (madeCells #[Value.string ByteArray.empty] n) 9)) 22 22 3 9 w.heap.size 0 n n x n c _ 9 (xs.map Value.string) Trym.underlying22 Trym.size9 hg (by simp [hl]) hsrc (by simp [hl, size_madeCells]) h1
  refine ⟨_, _, hr, own_of_heap ?_ (Nat.le_refl _) hl hb, below_setRow ((Below.refl _ _).alloc (Nat.le_refl _) _) (Nat.le_refl _) _⟩
  rw [setRow_heap _ _ _ _ _ _ hg]
  simp [hl, size_madeCells]

set_option maxHeartbeats 1000000 in
theorem clone_some (w : World) (x : Addr) (n c : Nat) (xs : List ByteArray) (hs : Src w (some x) n xs) (hb : n ≤ 1048576) :
    Calls Trym.prog 7 #[.slice (some x) n c] w fun e w' => e = .returned (.slice (some ⟨w.heap.size, 0, none⟩) n n) ∧ Own w' w.heap.size (some ⟨w.heap.size, 0, none⟩) n n xs ∧ Below w.heap.size w w' := by
  have hn := fun (w : World) (a : Option Addr) (n c : Nat) => Lib.run_eql_slice_nil (P := Trym.prog) w 22 9 a n c 0 0 Trym.underlying22
  have hmk := run_make_row' (P := Trym.prog) 22 9 (.string ByteArray.empty) 16 Trym.underlying22 Trym.info9 rfl .i64 .i64 n (by omega) (by omega)
  obtain ⟨v, W, hcp, hown, hbel⟩ := copied w x n c xs hs hb
  clear hs
  go_enter Trym.func7, Trym.ntmps7
  go_wp2
  go_ret
  exact ⟨rfl, hown, hbel⟩

/-- zzCloneList. -/
theorem clone_any (w : World) (ao : Option Addr) (n c : Nat) (xs : List ByteArray) (hs : Src w ao n xs) (hb : n ≤ 1048576) :
    Calls Trym.prog 7 #[.slice ao n c] w fun e w' => ∃ ao' c', e = .returned (.slice ao' n c') ∧ Own w' w.heap.size ao' n c' xs ∧ Below w.heap.size w w' := by
  rcases ao with _ | x
  · have hn := hs.2.1 rfl
    subst hn
    have hx : xs = [] := List.eq_nil_of_length_eq_zero hs.1
    subst hx
    refine (clone_nil w 0 c).mono fun e w' ⟨he, hw⟩ => ⟨none, 0, he, ?_, ?_⟩
    · subst hw; exact World.ownsRow_nil _ _ _ _
    · subst hw; exact Below.refl _ _
  · exact (clone_some w x n c xs hs hb).mono fun e w' ⟨he, h1, h2⟩ => ⟨_, _, he, h1, h2⟩

/-! ### slices.Equal at []string -/
theorem ne_of_getD {xs ys : List ByteArray} {k : Nat} (h : ¬ xs.getD k ByteArray.empty = ys.getD k ByteArray.empty) : xs ≠ ys := fun e => h (by rw [e])
theorem eq_of_getD {xs ys : List ByteArray} {n : Nat} (hx : xs.length = n) (hy : ys.length = n) (h : ∀ j, j < n → xs.getD j ByteArray.empty = ys.getD j ByteArray.empty) : xs = ys := by
  apply List.ext_getElem (by omega)
  intro j h1 h2
  have := h j (by omega)
  simpa [h1, h2] using this

set_option maxHeartbeats 2000000 in
theorem equal_any (w : World) (a1 a2 : Option Addr) (n c m d : Nat) (xs ys : List ByteArray) (hx : Src w a1 n xs) (hy : Src w a2 m ys) (hn : n ≤ 1048576) (hm : m ≤ 1048577) :
    Calls Trym.prog 13 #[.slice a1 n c, .slice a2 m d] w fun e w' => e = .returned (.bool (decide (xs = ys))) ∧ ∃ q, w' = w.drewN q := by
  have HX : Hid (Src w a1 n xs) := hx
  have HY : Hid (Src w a2 m ys) := hy
  by_cases hnm : n = m
  · subst hnm
    clear hx hy
    go_enter Trym.func13, Trym.ntmps13
    go_wp2
    go_loopg [13] n (fun g s13 wr => ∃ k q : Nat, k ≤ n ∧ n - k ≤ g ∧ s13 = .int .i64 k ∧ wr = w.drewN q ∧ ∀ j, j < k → xs.getD j ByteArray.empty = ys.getD j ByteArray.empty)
    case atStart => exact ⟨0, 0, Nat.zero_le _, by omega, rfl, rfl, fun j hj => absurd hj (Nat.not_lt_zero _)⟩
    case round =>
      obtain ⟨k, q, hk, hg, rfl, rfl, heq⟩ := hrel
      by_cases hlt : k < n
      · obtain ⟨b1, o1, e1, _, g1⟩ := HX.out.at hlt
        obtain ⟨b2, o2, e2, _, g2⟩ := HY.out.at hlt
        subst e1
        subst e2
        have A : Hid (∀ j, j < k → xs.getD j ByteArray.empty = ys.getD j ByteArray.empty) := heq
        clear heq
        generalize hxk : xs.getD k ByteArray.empty = x at g1
        generalize hyk : ys.getD k ByteArray.empty = y at g2
        have B : Hid (xs.getD k ByteArray.empty = x ∧ ys.getD k ByteArray.empty = y) := ⟨hxk, hyk⟩
        clear hxk hyk
        by_cases hxy : x = y
        · subst hxy
          go_wp2_with fail
          go_region
          go_wp2
          go_roundg (n - (k + 1))
          case measure => omega
          case rel =>
            refine ⟨k + 1, q + 1, by omega, by omega, by go_num, rfl, fun j hj => ?_⟩
            by_cases e : j = k
            · subst e
              rw [B.out.1, B.out.2]
            · exact A.out j (by omega)
        · have hxy' : (x.toList == y.toList) = false := (Lib.bytes_beq_false_iff _ _).2 hxy
          go_wp2_with fail
          go_region
          go_wp2
          go_ret
          refine ⟨?_, q + 1, rfl⟩
          rw [decide_eq_false (ne_of_getD (k := k) (by rw [B.out.1, B.out.2]; exact hxy))]
          rfl
      · have : k = n := by omega
        subst this
        go_wp2
        go_ret
        refine ⟨?_, q, rfl⟩
        rw [decide_eq_true (eq_of_getD HX.out.1 HY.out.1 heq)]
        rfl
  · have hnm' : ¬ (n : Int) = (m : Int) := by omega
    have hne : ¬ xs = ys := fun e => hnm (by rw [← hx.1, ← hy.1, e])
    clear hx hy
    go_enter Trym.func13, Trym.ntmps13
    go_wp2
    go_ret
    refine ⟨?_, 0, rfl⟩
    rw [decide_eq_false hne]
    rfl

theorem below_drewN {w : World} (B q : Nat) : Below B w (w.drewN q) := by
  induction q with
  | zero => exact Below.refl _ _
  | succ q ih => exact ih.drew

/-! ### change.equal, through ZZchangeEqual -/
theorem equal_yes (w : World) (a1 a2 : Option Addr) (n c m d : Nat) (xs ys : List ByteArray) (hx : Src w a1 n xs) (hy : Src w a2 m ys) (hn : n ≤ 1048576) (hm : m ≤ 1048577) (h : xs = ys) :
    Calls Trym.prog 13 #[.slice a1 n c, .slice a2 m d] w fun e w' => e = .returned (.bool true) ∧ ∃ q, w' = w.drewN q :=
  (equal_any w a1 a2 n c m d xs ys hx hy hn hm).mono fun e w' ⟨he, hw⟩ => ⟨by rw [he, decide_eq_true h], hw⟩
theorem equal_no (w : World) (a1 a2 : Option Addr) (n c m d : Nat) (xs ys : List ByteArray) (hx : Src w a1 n xs) (hy : Src w a2 m ys) (hn : n ≤ 1048576) (hm : m ≤ 1048577) (h : ¬ xs = ys) :
    Calls Trym.prog 13 #[.slice a1 n c, .slice a2 m d] w fun e w' => e = .returned (.bool false) ∧ ∃ q, w' = w.drewN q :=
  (equal_any w a1 a2 n c m d xs ys hx hy hn hm).mono fun e w' ⟨he, hw⟩ => ⟨by rw [he, decide_eq_false h], hw⟩

/-- The world in which slices.Equal is called: two changes are boxed. -/
abbrev boxed (w : World) (v1 v2 v3 v4 : Value) : World := (w.alloc (.cells #[v1, v2] 30)).alloc (.cells #[v3, v4] 30)
theorem boxed_below (w : World) (v1 v2 v3 v4 : Value) : Below w.heap.size w (boxed w v1 v2 v3 v4) := ((Below.refl _ _).alloc (Nat.le_refl _) _).alloc (by simp) _

set_option maxHeartbeats 2000000 in
theorem change_any (w : World) (a1 a2 a3 a4 : Option Addr) (n1 c1 n2 c2 n3 c3 n4 c4 : Nat) (x1 x2 x3 x4 : List ByteArray) (h1 : Src w a1 n1 x1) (h2 : Src w a2 n2 x2) (h3 : Src w a3 n3 x3) (h4 : Src w a4 n4 x4)
    (b1 : n1 ≤ 1048576) (b2 : n2 ≤ 1048576) (b3 : n3 ≤ 1048576) (b4 : n4 ≤ 1048576) :
    Calls Trym.prog 10 #[.slice a1 n1 c1, .slice a2 n2 c2, .slice a3 n3 c3, .slice a4 n4 c4] w fun e w' => e = .returned (.bool (decide (x1 = x3 ∧ x2 = x4))) ∧ Below w.heap.size w w' := by
  have B := boxed_below w (.slice a1 n1 c1) (.slice a2 n2 c2) (.slice a3 n3 c3) (.slice a4 n4 c4)
  have H1 : Hid (Src (boxed w (.slice a1 n1 c1) (.slice a2 n2 c2) (.slice a3 n3 c3) (.slice a4 n4 c4)) a1 n1 x1) := h1.since B
  have H2 : Hid (Src (boxed w (.slice a1 n1 c1) (.slice a2 n2 c2) (.slice a3 n3 c3) (.slice a4 n4 c4)) a2 n2 x2) := h2.since B
  have H3 : Hid (Src (boxed w (.slice a1 n1 c1) (.slice a2 n2 c2) (.slice a3 n3 c3) (.slice a4 n4 c4)) a3 n3 x3) := h3.since B
  have H4 : Hid (Src (boxed w (.slice a1 n1 c1) (.slice a2 n2 c2) (.slice a3 n3 c3) (.slice a4 n4 c4)) a4 n4 x4) := h4.since B
  have HB : Hid (Below w.heap.size w (boxed w (.slice a1 n1 c1) (.slice a2 n2 c2) (.slice a3 n3 c3) (.slice a4 n4 c4))) := B
  clear h1 h2 h3 h4 B
  by_cases e1 : x1 = x3
  · have E1 : Hid (x1 = x3) := e1
    clear e1
    go_enter Trym.func10, Trym.ntmps10
    go_wp2_with (go_at_call 12; go_in)
    refine (equal_yes _ _ _ _ _ _ _ x1 x3 H1.out H3.out b1 (by omega) E1.out).mono ?_
    rintro e w' ⟨rfl, q, rfl⟩
    go_wp2_with fail
    refine (equal_any _ _ _ _ _ _ _ x2 x4 (H2.out.since (below_drewN _ _)) (H4.out.since (below_drewN _ _)) b2 (by omega)).mono ?_
    rintro e w' ⟨rfl, q', rfl⟩
    generalize hr : decide (x2 = x4) = r
    have HR : Hid (decide (x2 = x4) = r) := hr
    clear hr
    go_wp2_with fail
    go_ret
    refine ⟨?_, HB.out.trans (below_drewN _ _)⟩
    rw [show decide (x1 = x3 ∧ x2 = x4) = r by rw [← HR.out]; simp [E1.out]]
    rfl
  · have E1 : Hid (¬ x1 = x3) := e1
    clear e1
    go_enter Trym.func10, Trym.ntmps10
    go_wp2_with (go_at_call 12; go_in)
    refine (equal_no _ _ _ _ _ _ _ x1 x3 H1.out H3.out b1 (by omega) E1.out).mono ?_
    rintro e w' ⟨rfl, q, rfl⟩
    go_wp2_with fail
    go_ret
    refine ⟨?_, HB.out.trans (below_drewN _ _)⟩
    rw [decide_eq_false (fun h => E1.out h.1)]
    rfl

/-- The same, the answer under a name. -/
theorem change_to (r : Bool) (w : World) (a1 a2 a3 a4 : Option Addr) (n1 c1 n2 c2 n3 c3 n4 c4 : Nat) (x1 x2 x3 x4 : List ByteArray) (h1 : Src w a1 n1 x1) (h2 : Src w a2 n2 x2) (h3 : Src w a3 n3 x3) (h4 : Src w a4 n4 x4)
    (b1 : n1 ≤ 1048576) (b2 : n2 ≤ 1048576) (b3 : n3 ≤ 1048576) (b4 : n4 ≤ 1048576) (hr : decide (x1 = x3 ∧ x2 = x4) = r) :
    Calls Trym.prog 10 #[.slice a1 n1 c1, .slice a2 n2 c2, .slice a3 n3 c3, .slice a4 n4 c4] w fun e w' => e = .returned (.bool r) ∧ Below w.heap.size w w' := by
  rw [← hr]
  exact change_any w a1 a2 a3 a4 n1 c1 n2 c2 n3 c3 n4 c4 x1 x2 x3 x4 h1 h2 h3 h4 b1 b2 b3 b4

/-! ### zzAddStrings -/
set_option maxHeartbeats 2000000 in
theorem add_any (w : World) (t : Int) (ao : Option Addr) (n c : Nat) (xs : List ByteArray) (hs : Src w ao n xs) (hn : n ≤ 1048576) (hz : ∀ j, (xs.getD j ByteArray.empty).size ≤ maxLen) (h0 : 0 ≤ t) (h1 : t ≤ 1048592) :
    Calls Trym.prog 6 #[.int .i64 t, .slice ao n c] w fun e w' => ∃ r : Int, e = .returned (.int .i64 r) ∧ 0 ≤ r ∧ r ≤ 1048592 ∧ w = w' := by
  have HS : Hid (Src w ao n xs) := hs
  have HZ : Hid (∀ j, (xs.getD j ByteArray.empty).size ≤ maxLen) := hz
  clear hs hz
  go_enter Trym.func6, Trym.ntmps6
  go_wp2
  go_loop [0, 5] (fun t i => ∃ (k : Nat) (z : Int), k ≤ n ∧ i = .int .i64 k ∧ t = .int .i64 z ∧ 0 ≤ z ∧ z ≤ 1048592) (fun _ i => n - (intOf i).toNat)
  case atStart => exact ⟨0, t, Nat.zero_le _, rfl, rfl, h0, h1⟩
  case round =>
    obtain ⟨k, z, hk, rfl, rfl, hz0, hz1⟩ := hrel
    by_cases hlt : k < n
    · obtain ⟨b, o, e1, _, g1⟩ := HS.out.at hlt
      subst e1
      have hsz := HZ.out k
      generalize xs.getD k ByteArray.empty = x at g1 hsz
      unfold maxLen at hsz
      by_cases hb1 : 1048576 < z
      · go_wp2
        go_ret
        exact ⟨_, rfl, by omega, by omega, rfl⟩
      · by_cases hb2 : 1048576 - z < (x.size : Int)
        · go_wp2
          go_ret
          exact ⟨_, rfl, by omega, by omega, rfl⟩
        · go_wp2
          go_round
          case rel => exact ⟨k + 1, z + 16 + x.size, by omega, by go_num, by go_num, by omega, by omega⟩
          case measure => simp [intOf]; omega
    · go_wp2
      go_ret
      exact ⟨_, rfl, hz0, hz1, rfl⟩
end Go.Proofs.Qxb6616823aMods.lists
