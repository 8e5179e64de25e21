/-
  THE WALK OF FnGrowTwiceEqualsGrowAtGreater out of the contracts of what it calls.
-/
import Derived.Test.Qxb6616679aModsLeft
namespace Go.Proofs.Qxb6616679aMods.left
open Go.ChangeShapes Go.WideShapes Go.ChangeAt Go.RowKit Go.Deep

/-! ### Plain laws -/
theorem gr_length (xs : List Int) (k : Int) : (gr xs k).length = max xs.length k.toNat := by unfold gr; simp; omega
theorem gr_getD (xs : List Int) (k : Int) (j : Nat) : (gr xs k).getD j 0 = xs.getD j 0 := by
  unfold gr
  by_cases h : j < xs.length
  · simp [List.getD, List.getElem?_append_left h]
  · simp only [List.getD, List.getElem?_append_right (Nat.le_of_not_lt h), List.getElem?_replicate]
    rw [List.getElem?_eq_none (Nat.le_of_not_lt h)]
    split <;> rfl
theorem getD_past (xs : List Int) (j : Nat) (h : xs.length ≤ j) : xs.getD j 0 = 0 := by simp [List.getD, List.getElem?_eq_none h]

/-- What is owned stays owned in a world that is as it was below a bound above its block. -/
theorem owns_below {w w' : World} {base B n : Nat} {v : Value} {xs : List Value} (h : w.ownsRow base 3 1 v n xs) (hb : Below B w w') (hlt : ∀ g, v.ownBlock = some g → g < B) : w'.ownsRow base 3 1 v n xs := by
  obtain ⟨h1, h2⟩ := h
  refine ⟨h1, ?_⟩
  rcases h2 with h2 | ⟨g, cap, cur, hv, hg, hh, r⟩
  · exact .inl h2
  · exact .inr ⟨g, cap, cur, hv, hg, by rw [hb.block g (hlt g (by simp [hv, Value.ownBlock]))]; exact hh, r⟩
theorem owns_since {w w' : World} {base n : Nat} {v : Value} {xs : List Value} (h : w.ownsRow base 3 1 v n xs) (hb : Below w.heap.size w w') : w'.ownsRow base 3 1 v n xs :=
  owns_below h hb fun g e => (h.lt g e).2
theorem ML.since {w w' : World} {base b n c : Nat} {ao : Option Addr} {xs : List Int} (h : ML w base b ao n c xs) (hb : Below w.heap.size w w') : ML w' base b ao n c xs :=
  ⟨h.1, by rw [hb.block b (lt_of_block h.2.1)]; exact h.2.1, owns_since h.2.2 hb⟩
theorem cell_at {w : World} {base n c g : Nat} {xs : List Int} (h : w.ownsRow base 3 1 (.slice (some ⟨g, 0, none⟩) n c) n (xs.map (Value.int .i64))) {j : Nat} (hj : j < n) : w.cell? ⟨g, j, none⟩ = some (.int .i64 (xs.getD j 0)) := by
  have hl : xs.length = n := by simpa using h.1
  rw [h.cellAt j (by omega)]
  simp [hl, hj]

theorem max_to (a b r : Int) (w : World) (h : max a b = r) :
    Calls Trym.prog 9 #[.int .i64 a, .int .i64 b] w fun e w' => e = .returned (.int .i64 r) ∧ w' = w := by
  rw [← h]; exact max_int a b w

set_option maxHeartbeats 2000000 in
theorem twice (w : World) (ao : Option Addr) (len c : Nat) (xs : List Int) (n m M : Int) (K : Nat) (hs : Src w ao len xs) (hlen : len ≤ 131072) (hn : n ≤ 65536) (hn' : -1073741824 ≤ n) (hm : m ≤ 65536) (hm' : -1073741824 ≤ m)
    (hM : max n m = M) (hK : max (len : Int) M = K) :
    Calls Trym.prog 3 #[.slice ao len c, .int .i64 n, .int .i64 m] w fun e w' => e = .returned (.bool true) ∧ Below w.heap.size w w' := by
  have hxl := hs.1
  have K1 : max (max len n.toNat) m.toNat = K := by omega
  have K2 : max len M.toNat = K := by omega
  have HM : Hid (max n m = M) := hM
  have HK : Hid (max (len : Int) M = K) := hK
  have HK1 : Hid (max (max len n.toNat) m.toNat = K) := K1
  have HK2 : Hid (max len M.toNat = K) := K2
  have HS : Hid (Src w ao len xs) := hs
  have bM : M ≤ 65536 := by omega
  have bM' : -1073741824 ≤ M := by omega
  have bK : K ≤ 131072 := by omega
  have bK' : len ≤ K := by omega
  have b1 : max len n.toNat ≤ 1048576 := by omega
  clear hM hK K1 K2 hs
  go_enter Trym.func3, Trym.ntmps3
  go_wp2_with (go_at_call 5; refine (bytes5 _ _ _ _ _ _ (by omega)).mono ?_; rintro e w' ⟨rfl, rfl⟩)
  refine (clone_any _ ao len c xs HS.out (by omega)).mono ?_
  rintro e w1 ⟨ao0, c0, rfl, hown0, hb1⟩
  go_wp2_with fail
  refine (clone_any _ ao0 len c0 xs (Src.of_owns hown0) (by omega)).mono ?_
  rintro e w2 ⟨ao1, c1, rfl, hown1, hb2⟩
  go_wp2_with fail
  refine (new_left _ w1.heap.size ao1 len c1 xs hown1 hb2.size).mono ?_
  rintro e w3 ⟨rfl, hM1, hb3⟩
  have hB3 : Below w1.heap.size w1 w3 := hb2.trans (hb3.mono hb2.size)
  clear hown1 hb2 hb3
  go_wp2_with fail
  refine (grow_any _ w1.heap.size _ ao1 len c1 xs n hM1 hB3.size (by omega) hn hn').mono ?_
  rintro e w4 ⟨rfl, ao2, c2, hM2, hb4⟩
  have hB4 : Below w1.heap.size w1 w4 := hB3.trans hb4
  clear hM1 hB3 hb4
  go_wp2_with fail
  refine (grow_any _ w1.heap.size _ ao2 _ c2 (gr xs n) m hM2 hB4.size b1 hm hm').mono ?_
  rintro e w5 ⟨rfl, ao3, c3, hM3, hb5⟩
  rw [HK1.out] at hM3
  have hB5 : Below w1.heap.size w1 w5 := hB4.trans hb5
  have hown0' := owns_since hown0 hB5
  have hB5' := hb1.trans (hB5.mono hb1.size)
  clear hM2 hB4 hb5 hown0 hb1 hB5
  go_wp2_with fail
  refine (clone_any _ ao0 len c0 xs (Src.of_owns hown0') (by omega)).mono ?_
  rintro e w6 ⟨ao4, c4, rfl, hown4, hb6⟩
  go_wp2_with fail
  refine (new_left _ w5.heap.size ao4 len c4 xs hown4 hb6.size).mono ?_
  rintro e w7 ⟨rfl, hM4, hb7⟩
  have hB7 : Below w5.heap.size w5 w7 := hb6.trans (hb7.mono hb6.size)
  clear hown4 hb6 hb7
  go_wp2_with (go_at_call 9; refine (max_to _ _ _ _ HM.out).mono ?_; rintro e w' ⟨rfl, rfl⟩)
  refine (grow_any _ w5.heap.size _ ao4 len c4 xs M hM4 hB7.size (by omega) bM bM').mono ?_
  rintro e w8 ⟨rfl, ao5, c5, hM5, hb8⟩
  rw [HK2.out] at hM5
  have hB8 : Below w5.heap.size w5 w8 := hB7.trans hb8
  have hM3' := hM3.since hB8
  have hown0 := owns_since hown0' hB8
  have hbel := hB5'.trans (hB8.mono hB5'.size)
  clear hM4 hB7 hb8 hM3 hown0' hB5' hB8
  go_wp2_with (first | (go_at_call 10; refine (places_of _ _ _ _ _ _ _ hM3').mono ?_; rintro e w' ⟨rfl, rfl⟩) | (go_at_call 10; refine (places_of _ _ _ _ _ _ _ hM5).mono ?_; rintro e w' ⟨rfl, rfl⟩) | (go_at_call 9; refine (max_to _ _ _ _ HM.out).mono ?_; rintro e w' ⟨rfl, rfl⟩) | (go_at_call 9; refine (max_to _ _ _ _ HK.out).mono ?_; rintro e w' ⟨rfl, rfl⟩))
  have hown3 := hM3'.2.2
  have hown5 := hM5.2.2
  clear hM3' hM5 HM HK HK1 HK2 HS
  go_loop [12] (fun i => ∃ k : Nat, k ≤ K ∧ i = .int .i64 k) (fun i => K - (intOf i).toNat)
  case atStart => exact ⟨0, Nat.zero_le _, rfl⟩
  case round =>
    obtain ⟨k, hk, rfl⟩ := hrel
    by_cases hlt : k < K
    · obtain ⟨g3, e3⟩ := owns_head hown3 (by omega)
      obtain ⟨g5, e5⟩ := owns_head hown5 (by omega)
      subst e3
      subst e5
      have q1 := cell_at hown3 hlt
      have q2 := cell_at hown5 hlt
      rw [gr_getD, gr_getD] at q1
      rw [gr_getD] at q2
      by_cases hl : k < len
      · obtain ⟨g0, e0⟩ := owns_head hown0 (by omega)
        subst e0
        have p0 := cell_at hown0 hl
        generalize xs.getD k 0 = y at q1 q2 p0
        clear hown0 hown3 hown5 hbel
        go_wp2
        go_round
        case rel => exact ⟨k + 1, by omega, by go_num⟩
        case measure => simp [intOf]; omega
      · rw [getD_past xs k (by omega)] at q1 q2
        clear hown0 hown3 hown5 hbel
        go_wp2
        go_round
        case rel => exact ⟨k + 1, by omega, by go_num⟩
        case measure => simp [intOf]; omega
    · go_wp2
      go_ret
      exact ⟨rfl, hbel⟩
end Go.Proofs.Qxb6616679aMods.left
