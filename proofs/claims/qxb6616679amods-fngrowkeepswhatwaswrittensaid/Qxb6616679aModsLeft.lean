/-
  THE CONTRACTS OF WHAT THE TWO LAWS ON 'grow' CALL: cloneInts, maxInt, the two zzBytes, ZZnewMostLeft, ZZgrowMostLeft (and grow), ZZmostLeftPlaces.
-/
import Derived.Test.Qxb6616679aModsRows
import Derived.Test.Qxb6616679aModsZeros
import Derived.WalkKit
import Derived.WalkLawsBesides
import Derived.WalkSpells
import Derived.ProofKit
import Derived.Deep.OwnRows
import Derived.Lib.SliceRun
namespace Go.Proofs.Qxb6616679aMods.left
open Go.ChangeShapes Go.WideShapes Go.ChangeAt Go.RowKit Go.Deep
theorem Trym.info3 : (Trym.prog.info? 3).map (fun i => (i.zero, i.size, i.bytes)) = some (some (.int .i64 0), 1, 8) := by kernel_rfl

/-- The cells of a mostLeft whose field 'places' alone is set. -/
abbrev ml (v : Value) : Array Value := #[.slice none 0 0, .nilFunc, .nilFunc, v, .int .i64 0]

theorem clone_nil (w : World) (n c : Nat) :
    Calls Trym.prog 6 #[.slice none n c] w fun e w' => e = .returned (.slice none 0 0) ∧ w' = w := by
  have hn := fun (w : World) (a : Option Addr) (n c : Nat) => Lib.run_eql_slice_nil (P := Trym.prog) w 22 3 a n c 0 0 Trym.underlying22
  go_enter Trym.func6, Trym.ntmps6
  go_wp2
  go_ret
  exact ⟨rfl, rfl⟩

set_option maxHeartbeats 1000000 in
theorem clone_some (w : World) (x : Addr) (n c : Nat) (xs : List Int) (hx : xs.length = n) (hb : n ≤ 1048576)
    (hc : ∀ j, j < n → w.cell? (x.add j) = some (.int .i64 (xs.getD j 0))) :
    Calls Trym.prog 6 #[.slice (some x) n c] w fun e w' => e = .returned (.slice (some ⟨w.heap.size, 0, none⟩) n n) ∧ w' = w.alloc (.cells (xs.map (Value.int .i64)).toArray 3) := by
  have hn := fun (w : World) (a : Option Addr) (n c : Nat) => Lib.run_eql_slice_nil (P := Trym.prog) w 22 3 a n c 0 0 Trym.underlying22
  have hmk := run_make_row' (P := Trym.prog) 22 3 (.int .i64 0) 8 Trym.underlying22 Trym.info3 rfl .i64 .i64 n (by omega) (by omega)
  go_enter Trym.func6, Trym.ntmps6
  go_wp2
  go_loopw [4] (fun i wr => ∃ (k : Nat) (A : Array Value), k ≤ n ∧ i = .int .i64 k ∧ A.size = n ∧ wr = w.alloc (.cells A 3) ∧ ∀ j, j < k → A[j]? = some (.int .i64 (xs.getD j 0)))
    (fun i _ => n - (intOf i).toNat)
  case atStart => exact ⟨0, _, Nat.zero_le _, rfl, size_madeCells _ _, rfl, fun j hj => absurd hj (Nat.not_lt_zero _)⟩
  case round =>
    obtain ⟨k, A, hk, rfl, hA, rfl, hd⟩ := hrel
    by_cases hlt : k < n
    · have hck := hc k hlt
      have hc0 := hc 0 (by omega)
      have hsp := World.cell?_spot hc0
      have hbk := World.block_lt_of_cell? w _ hc0
      obtain ⟨xb, xo, xsp⟩ := x
      obtain rfl : xsp = none := by simpa [Addr.add] using hsp
      rw [add_plain] at hck
      have hbk' : xb < w.heap.size := by simpa [Addr.add] using hbk
      obtain ⟨u, hu⟩ : ∃ u, A[k]? = some u := ⟨A[k]'(by omega), by simp⟩
      clear hbk hsp hc hc0
      generalize hy : xs.getD k 0 = y at hck
      have HY : Hid (xs.getD k 0 = y) := hy
      clear hy
      have HD : Hid (∀ j, j < k → A[j]? = some (.int .i64 (xs.getD j 0))) := hd
      clear hd
      go_wp2
      go_roundw
      case rel =>
        refine ⟨k + 1, A.setIfInBounds k (.int .i64 y), by omega, by go_num, by simp [hA], rfl, fun j hj => ?_⟩
        by_cases e : j = k
        · subst e
          rw [HY.out, Array.getElem?_setIfInBounds_self_of_lt (by omega)]
        · rw [Array.getElem?_setIfInBounds_ne (by omega)]
          exact HD.out j (by omega)
      case measure => simp [intOf]; omega
    · have : k = n := by omega
      subst this
      have hA' : A = (xs.map (Value.int .i64)).toArray := by
        apply Array.ext'
        apply List.ext_getElem?
        intro j
        by_cases hj : j < k
        · have := hd j hj
          simp at this ⊢
          rw [this]
          simp [hx ▸ hj]
        · simp [hA, hx, hj]
      subst hA'
      clear hc hd
      go_wp2
      go_ret
      exact ⟨rfl, rfl⟩

theorem max_int (a b : Int) (w : World) :
    Calls Trym.prog 9 #[.int .i64 a, .int .i64 b] w fun e w' => e = .returned (.int .i64 (max a b)) ∧ w' = w := by
  by_cases h : b < a
  · go_enter Trym.func9, Trym.ntmps9
    go_wp2
    go_ret
    exact ⟨by rw [Int.max_eq_left (by omega)]; rfl, rfl⟩
  · go_enter Trym.func9, Trym.ntmps9
    go_wp2
    go_ret
    exact ⟨by rw [Int.max_eq_right (by omega)]; rfl, rfl⟩
theorem bytes5 (a : Option Addr) (n c : Nat) (x y : Int) (w : World) (h : n ≤ 1048576) :
    Calls Trym.prog 5 #[.slice a n c, .int .i64 x, .int .i64 y] w fun e w' => e = .returned (.bool true) ∧ w' = w := by
  go_enter Trym.func5, Trym.ntmps5
  go_wp2
  go_ret
  exact ⟨rfl, rfl⟩
theorem bytes5_no (a : Option Addr) (n c : Nat) (x y : Int) (w : World) (h : 1048576 < n) :
    Calls Trym.prog 5 #[.slice a n c, .int .i64 x, .int .i64 y] w fun e w' => e = .returned (.bool false) ∧ w' = w := by
  go_enter Trym.func5, Trym.ntmps5
  go_wp2
  go_ret
  exact ⟨rfl, rfl⟩
theorem bytes11 (a : Option Addr) (n c : Nat) (x y z u : Int) (w : World) (h : n ≤ 1048576) :
    Calls Trym.prog 11 #[.slice a n c, .int .i64 x, .int .i64 y, .int .i64 z, .int .i64 u] w fun e w' => e = .returned (.bool true) ∧ w' = w := by
  go_enter Trym.func11, Trym.ntmps11
  go_wp2
  go_ret
  exact ⟨rfl, rfl⟩
theorem bytes11_no (a : Option Addr) (n c : Nat) (x y z u : Int) (w : World) (h : 1048576 < n) :
    Calls Trym.prog 11 #[.slice a n c, .int .i64 x, .int .i64 y, .int .i64 z, .int .i64 u] w fun e w' => e = .returned (.bool false) ∧ w' = w := by
  go_enter Trym.func11, Trym.ntmps11
  go_wp2
  go_ret
  exact ⟨rfl, rfl⟩

/-- What a slice of ints that is only read must be: nil (then empty), or its elements lie at its address. -/
def Src (w : World) (ao : Option Addr) (n : Nat) (xs : List Int) : Prop :=
  xs.length = n ∧ (ao = none → n = 0) ∧ ∀ x, ao = some x → ∀ j, j < n → w.cell? (x.add j) = some (.int .i64 (xs.getD j 0))

/-- An owned slice of at least one element lies at the head of a row. -/
theorem owns_head {w : World} {base n c : Nat} {ao : Option Addr} {xs : List Value} (h : w.ownsRow base 3 1 (.slice ao n c) n xs) (hn : 0 < n) : ∃ g, ao = some ⟨g, 0, none⟩ := by
  rcases h.2 with ⟨_, h2⟩ | ⟨g, cap, cur, h2, _⟩
  · omega
  · simp only [Value.slice.injEq] at h2
    exact ⟨g, h2.1⟩

theorem Src.of_owns {w : World} {base n c : Nat} {ao : Option Addr} {xs : List Int} (h : w.ownsRow base 3 1 (.slice ao n c) n (xs.map (Value.int .i64))) : Src w ao n xs := by
  have hl : xs.length = n := by simpa using h.1
  refine ⟨hl, ?_, ?_⟩
  · intro e
    rcases h.2 with ⟨_, h2⟩ | ⟨g, cap, cur, h2, _⟩
    · exact h2
    · simp [e] at h2
  · intro x e j hj
    obtain ⟨g, hg⟩ := owns_head h (by omega)
    obtain rfl : x = ⟨g, 0, none⟩ := by simpa [e] using hg
    subst e
    rw [add_plain, Nat.zero_add, h.cellAt j (by omega)]
    simp [hl, hj]

/-- cloneInts. -/
theorem clone_any (w : World) (ao : Option Addr) (n c : Nat) (xs : List Int) (hs : Src w ao n xs) (hb : n ≤ 1048576) :
    Calls Trym.prog 6 #[.slice ao n c] w fun e w' => ∃ ao' c', e = .returned (.slice ao' n c') ∧ w'.ownsRow w.heap.size 3 1 (.slice ao' n c') n (xs.map (Value.int .i64)) ∧ Below w.heap.size w w' := by
  obtain ⟨hl, h0, hc⟩ := hs
  rcases ao with _ | x
  · have hn := h0 rfl
    subst hn
    have hx : xs = [] := List.eq_nil_of_length_eq_zero hl
    subst hx
    refine (clone_nil w 0 c).mono fun e w' ⟨he, hw⟩ => ⟨none, 0, he, ?_, ?_⟩
    · subst hw; exact World.ownsRow_nil _ _ _ _
    · subst hw; exact Below.refl _ _
  · refine (clone_some w x n c xs hl hb (hc x rfl)).mono fun e w' ⟨he, hw⟩ => ⟨_, _, he, ?_, ?_⟩
    · subst hw
      have := World.ownsRow_lit (base := w.heap.size) (e := 3) (size := 1) w (xs.map (Value.int .i64)).toArray n (Nat.le_refl _) (by unfold maxLen; omega) (by simp [hl])
      simpa using this
    · subst hw; exact (Below.refl _ _).alloc (Nat.le_refl _) _

/-- A mostLeft at block b, its 'places' an owned row (or nil). -/
def ML (w : World) (base b : Nat) (ao : Option Addr) (n c : Nat) (xs : List Int) : Prop :=
  base ≤ b ∧ w.heap[b]? = some (.cells (ml (.slice ao n c)) 42 (0, 0)) ∧ w.ownsRow base 3 1 (.slice ao n c) n (xs.map (Value.int .i64))

theorem new_left (w : World) (base : Nat) (ao : Option Addr) (n c : Nat) (xs : List Int) (hown : w.ownsRow base 3 1 (.slice ao n c) n (xs.map (Value.int .i64))) (hb : base ≤ w.heap.size) :
    Calls Trym.prog 7 #[.slice ao n c] w fun e w' => e = .returned (.pointer (some ⟨w.heap.size, 0, none⟩)) ∧ ML w' base w.heap.size ao n c xs ∧ Below w.heap.size w w' := by
  have R : ML (w.alloc (.cells (ml (.slice ao n c)) 42)) base w.heap.size ao n c xs := ⟨hb, heap_alloc_new w _, hown.alloc _⟩
  have B : Below w.heap.size w (w.alloc (.cells (ml (.slice ao n c)) 42)) := (Below.refl _ _).alloc (Nat.le_refl _) _
  clear hown hb
  go_enter Trym.func7, Trym.ntmps7
  go_wp2
  go_ret
  exact ⟨rfl, R, B⟩

theorem places_of (w : World) (base b : Nat) (ao : Option Addr) (n c : Nat) (xs : List Int) (h : ML w base b ao n c xs) :
    Calls Trym.prog 10 #[.pointer (some ⟨b, 0, none⟩)] w fun e w' => e = .returned (.slice ao n c) ∧ w' = w := by
  have hc : w.cell? ⟨b, 3, none⟩ = some (.slice ao n c) := by rw [cell_of_row w b 3 _ _ _ h.2.1]; rfl
  clear h
  go_enter Trym.func10, Trym.ntmps10
  go_wp2
  go_ret
  exact ⟨rfl, rfl⟩

/-- What grow leaves. -/
def gr (xs : List Int) (k : Int) : List Int := xs ++ List.replicate (k.toNat - xs.length) 0

/-- An owned row of ints is not the block of a mostLeft. -/
theorem row_ne {w : World} {base b n : Nat} {v : Value} {cs : Array Value} {zs : List Value} (hl : w.heap[b]? = some (.cells cs 42 (0, 0))) (ho : w.ownsRow base 3 1 v n zs) : v.ownBlock ≠ some b := by
  intro e
  rcases ho.2 with ⟨h1, _⟩ | ⟨g, cap, cur, h1, _, hh, _⟩
  · simp [h1, Value.ownBlock] at e
  · rw [h1] at e
    simp [Value.ownBlock] at e
    subst e
    rw [hl] at hh
    simp at hh

/-- A mostLeft behind the append and the store into its field. -/
theorem ML.stored {w w1 : World} {base b : Nat} {ao ao' : Option Addr} {n c n' c' : Nat} {xs ys : List Int} (h : ML w base b ao n c xs) (hown : w1.ownsRow base 3 1 (.slice ao' n' c') n' (ys.map (Value.int .i64)))
    (hg : w.grownBy w1 (Value.ownBlock (.slice ao n c))) (hbs : base ≤ w.heap.size) :
    w1.heap[b]? = some (.cells (ml (.slice ao n c)) 42 (0, 0)) ∧ ML (w1.setCell ⟨b, 3, none⟩ (.slice ao' n' c')) base b ao' n' c' ys ∧ Below base w (w1.setCell ⟨b, 3, none⟩ (.slice ao' n' c')) := by
  obtain ⟨hb, hl, ho⟩ := h
  have h1 : w1.heap[b]? = some (.cells (ml (.slice ao n c)) 42 (0, 0)) := by rw [hg.block b (lt_of_block hl) (fun e => row_ne hl ho e.symm)]; exact hl
  refine ⟨h1, ⟨hb, ?_, ownsRow_setCell_other hown (row_ne h1 hown) _⟩, ((Below.refl base w).grown hg hbs (fun k e => (ho.lt k e).1)).setCell hb _⟩
  rw [heap_setCell_same w1 b 3 _ 42 _ h1]
  rfl

set_option maxHeartbeats 1000000 in
/-- (*mostLeft).grow where it grows. -/
theorem grow_more (w : World) (base b : Nat) (ao : Option Addr) (n c : Nat) (xs : List Int) (k : Int) (h : ML w base b ao n c xs) (hbs : base ≤ w.heap.size) (hn : n ≤ 1048576) (hk : k ≤ 65536) (hlt : (n : Int) < k) :
    Calls Trym.prog 8 #[.pointer (some ⟨b, 0, none⟩), .int .i64 k] w fun e w' => e = .returned (.tuple #[]) ∧ ∃ ao' c', ML w' base b ao' k.toNat c' (gr xs k) ∧ Below base w w' := by
  obtain ⟨m, hm'⟩ : ∃ m : Nat, (m : Int) = k - n := ⟨(k - n).toNat, by omega⟩
  have hm : 0 < m := by omega
  have hxl : xs.length = n := by simpa using h.2.2.1
  obtain ⟨i0, hi, hz0, hz1, hz2⟩ := info_parts Trym.info3
  obtain ⟨g, cap, w1, hrun, hown1, hgrow⟩ := run_append_zeros_own (P := Trym.prog) w base 22 3 22 3 i0 .i64 Trym.underlying22 Trym.underlying3 hi hz0 hz1 hz2 _ n _ h.2.2 m hm (by omega) hbs
  rw [hm'] at hrun
  have ek : k.toNat = n + m := by omega
  have eg : gr xs k = xs ++ List.replicate m 0 := by unfold gr; rw [hxl, ek, Nat.add_sub_cancel_left]
  have hown1' : w1.ownsRow base 3 1 (.slice (some ⟨g, 0, none⟩) (n + m) cap) (n + m) ((xs ++ List.replicate m 0).map (Value.int .i64)) := by simpa using hown1
  obtain ⟨h1, hML, hbel⟩ := ML.stored h hown1' hgrow hbs
  have R : Hid (∃ ao' c', ML (w1.setCell ⟨b, 3, none⟩ (.slice (some ⟨g, 0, none⟩) (n + m) cap)) base b ao' k.toNat c' (gr xs k) ∧
      Below base w (w1.setCell ⟨b, 3, none⟩ (.slice (some ⟨g, 0, none⟩) (n + m) cap))) := ⟨_, _, by rw [eg, ek]; exact hML, hbel⟩
  have hc : w.cell? ⟨b, 3, none⟩ = some (.slice ao n c) := by rw [cell_of_row w b 3 _ _ _ h.2.1]; rfl
  have hc1 : w1.cell? ⟨b, 3, none⟩ = some (.slice ao n c) := by rw [cell_of_row w1 b 3 _ _ _ h1]; rfl
  have hf1 : w1.frozen? ⟨b, 3, none⟩ = false := frozen_of_row w1 b 3 _ _ h1
  have HR : Hid ((Builtin.append_ #[22, 3] 22 #[.slice ao n c, .int .i64 (k - n)]).run Trym.prog w = .ok (.slice (some ⟨g, 0, none⟩) (n + m) cap) w1) := hrun
  clear hrun hown1 hown1' hgrow h h1 hML hbel eg hi hz0 hz1 hz2 hbs hxl hm' ek
  go_enter Trym.func8, Trym.ntmps8
  go_wp2_with (first | (at_builtin; refine Lib.wpList_append_run _ rfl (.tmp 18) (.tmp 19) 22 3 rfl _ _ rfl rfl _ _ HR.out ?_) | go_in)
  go_end0
  go_wp2
  go_end0
  exact ⟨rfl, R.out⟩

/-- .. where there is nothing to grow. -/
theorem grow_less (w : World) (base b : Nat) (ao : Option Addr) (n c : Nat) (xs : List Int) (k : Int) (h : ML w base b ao n c xs) (hn : n ≤ 1048576) (hk : -1073741824 ≤ k) (hle : k ≤ (n : Int)) :
    Calls Trym.prog 8 #[.pointer (some ⟨b, 0, none⟩), .int .i64 k] w fun e w' => e = .returned (.tuple #[]) ∧ w' = w := by
  have hc : w.cell? ⟨b, 3, none⟩ = some (.slice ao n c) := by rw [cell_of_row w b 3 _ _ _ h.2.1]; rfl
  clear h
  go_enter Trym.func8, Trym.ntmps8
  go_wp2_with go_in
  go_end0
  go_wp2
  go_end0
  exact ⟨rfl, rfl⟩

/-- ZZgrowMostLeft, for every count that the laws let by. -/
theorem grow_any (w : World) (base b : Nat) (ao : Option Addr) (n c : Nat) (xs : List Int) (k : Int) (h : ML w base b ao n c xs) (hbs : base ≤ w.heap.size) (hn : n ≤ 1048576) (hk : k ≤ 65536) (hk' : -1073741824 ≤ k) :
    Calls Trym.prog 8 #[.pointer (some ⟨b, 0, none⟩), .int .i64 k] w fun e w' => e = .returned (.tuple #[]) ∧ ∃ ao' c', ML w' base b ao' (max n k.toNat) c' (gr xs k) ∧ Below base w w' := by
  by_cases hlt : (n : Int) < k
  · have e : max n k.toNat = k.toNat := by omega
    rw [e]
    exact grow_more w base b ao n c xs k h hbs hn hk hlt
  · have e : max n k.toNat = n := by omega
    have hxl : xs.length = n := by simpa using h.2.2.1
    have eg : gr xs k = xs := by unfold gr; rw [hxl, show k.toNat - n = 0 by omega]; simp
    rw [e, eg]
    refine (grow_less w base b ao n c xs k h hn hk' (by omega)).mono fun e w' ⟨he, hw⟩ => ⟨he, ao, c, ?_, ?_⟩
    · subst hw; exact h
    · subst hw; exact Below.refl _ _
end Go.Proofs.Qxb6616679aMods.left
