/-
  THE WALK OF FnGrowKeepsWhatWasWritten out of the contracts of what it calls.
-/
import Derived.Test.Qxb6616679aModsTwice
namespace Go.Proofs.Qxb6616679aMods.left
open Go.ChangeShapes Go.WideShapes Go.ChangeAt Go.RowKit Go.Deep

/-- A store into the row of a mostLeft. -/
theorem ML.put {w : World} {base b g n c : Nat} {xs : List Int} (h : ML w base b (some ⟨g, 0, none⟩) n c xs) (j : Nat) (v : Int) :
    ML (w.setCell ⟨g, j, none⟩ (.int .i64 v)) base b (some ⟨g, 0, none⟩) n c (xs.set j v) ∧ Below base w (w.setCell ⟨g, j, none⟩ (.int .i64 v)) := by
  obtain ⟨hb, hl, ho⟩ := h
  have hg : base ≤ g := (ho.lt g rfl).1
  have hne : b ≠ g := fun e => row_ne hl ho (by simp [Value.ownBlock, e])
  refine ⟨⟨hb, by rw [heap_setCell_other w _ b _ hne]; exact hl, ?_⟩, (Below.refl _ _).setCell hg _⟩
  have := (ho.stored j (.int .i64 v)).1
  rwa [List.map_set]

theorem set_getD (xs : List Int) (i k : Nat) (v : Int) (hi : i < xs.length) : (xs.set i v).getD k 0 = if k = i then v else xs.getD k 0 := by
  by_cases h : k = i
  · subst h; simp [List.getD, hi]
  · simp [List.getD, List.getElem?_set_ne (Ne.symm h), h]

set_option maxHeartbeats 2000000 in
theorem keeps (w : World) (ao : Option Addr) (len c : Nat) (xs : List Int) (n v m : Int) (i L K : Nat) (hs : Src w ao len xs) (hlen : len ≤ 131072) (hn : n ≤ 65536) (hn' : -1073741824 ≤ n) (hm : m ≤ 65536) (hm' : -1073741824 ≤ m)
    (hL : max (len : Int) n = L) (hiL : i < L) (hK : max (L : Int) m = K) :
    Calls Trym.prog 4 #[.slice ao len c, .int .i64 n, .int .i64 (i : Int), .int .i64 v, .int .i64 m] w fun e w' => e = .returned (.bool true) ∧ Below w.heap.size w w' := by
  have hxl := hs.1
  have L1 : max len n.toNat = L := by omega
  have K1 : max L m.toNat = K := by omega
  have HL : Hid (max (len : Int) n = L) := hL
  have HK : Hid (max (L : Int) m = K) := hK
  have HL1 : Hid (max len n.toNat = L) := L1
  have HK1 : Hid (max L m.toNat = K) := K1
  have HS : Hid (Src w ao len xs) := hs
  have bL : L ≤ 131072 := by omega
  have bK : K ≤ 131072 := by omega
  have bK' : len ≤ L := by omega
  have bK2 : L ≤ K := by omega
  have hi0 : (0 : Int) ≤ (i : Int) := by omega
  have hi1 : (i : Int) < (L : Int) := by omega
  have hgl : (gr xs n).length = L := by rw [gr_length, hxl]; exact L1
  have HG : Hid ((gr xs n).length = L) := hgl
  clear hL hK K1 L1 hs hgl
  go_enter Trym.func4, Trym.ntmps4
  go_wp2_with (first | (go_at_call 11; refine (bytes11 _ _ _ _ _ _ _ _ (by omega)).mono ?_; rintro e w' ⟨rfl, rfl⟩) | (go_at_call 9; refine (max_to _ _ _ _ HL.out).mono ?_; rintro e w' ⟨rfl, rfl⟩))
  refine (clone_any _ ao len c xs HS.out (by omega)).mono ?_
  rintro e w1 ⟨ao0, c0, rfl, hown0, hb1⟩
  go_wp2_with fail
  refine (clone_any _ ao0 len c0 xs (Src.of_owns hown0) (by omega)).mono ?_
  rintro e w2 ⟨ao1, c1, rfl, hown1, hb2⟩
  go_wp2_with fail
  refine (new_left _ w1.heap.size ao1 len c1 xs hown1 hb2.size).mono ?_
  rintro e w3 ⟨rfl, hM1, hb3⟩
  have hB3 : Below w1.heap.size w1 w3 := hb2.trans (hb3.mono hb2.size)
  clear hown1 hb2 hb3
  go_wp2_with fail
  refine (grow_any _ w1.heap.size _ ao1 len c1 xs n hM1 hB3.size (by omega) hn hn').mono ?_
  rintro e w4 ⟨rfl, ao2, c2, hM2, hb4⟩
  rw [HL1.out] at hM2
  have hB4 : Below w1.heap.size w1 w4 := hB3.trans hb4
  clear hM1 hB3 hb4
  obtain ⟨g2, e2⟩ := owns_head hM2.2.2 (by omega)
  subst e2
  have hcell := cell_at hM2.2.2 hiL
  have hfro := hM2.2.2.frozenAt i
  obtain ⟨hM3, hb5⟩ := hM2.put i v
  have hB5 : Below w1.heap.size w1 _ := hB4.trans hb5
  clear hB4 hb5
  go_wp2_with (go_at_call 10; refine (places_of _ _ _ _ _ _ _ hM2).mono ?_; rintro e w' ⟨rfl, rfl⟩)
  refine (grow_any _ w1.heap.size _ _ L c2 _ m hM3 hB5.size (by omega) hm hm').mono ?_
  rintro e w6 ⟨rfl, ao6, c6, hM6, hb6⟩
  rw [HK1.out] at hM6
  have hB6 : Below w1.heap.size w1 w6 := hB5.trans hb6
  have hownP := owns_since hown0 hB6
  have hbel := hb1.trans (hB6.mono hb1.size)
  have hget : ∀ k, (gr ((gr xs n).set i v) m).getD k 0 = if k = i then v else xs.getD k 0 := fun k => by
    rw [gr_getD, set_getD _ _ _ _ (by rw [HG.out]; exact hiL), gr_getD]
  have HGET : Hid (∀ k, (gr ((gr xs n).set i v) m).getD k 0 = if k = i then v else xs.getD k 0) := hget
  clear hget hM2 hcell hfro hM3 hB5 hB6 hb6 hown0 hb1
  go_wp2_with (first | (go_at_call 10; refine (places_of _ _ _ _ _ _ _ hM6).mono ?_; rintro e w' ⟨rfl, rfl⟩) | (go_at_call 9; refine (max_to _ _ _ _ HK.out).mono ?_; rintro e w' ⟨rfl, rfl⟩))
  have hown6 := hM6.2.2
  clear hM6 HL HK HL1 HK1 HS HG
  go_loop [16] (fun t => ∃ k : Nat, k ≤ K ∧ t = .int .i64 k) (fun t => K - (intOf t).toNat)
  case atStart => exact ⟨0, Nat.zero_le _, rfl⟩
  case round =>
    obtain ⟨k, hk, rfl⟩ := hrel
    by_cases hlt : k < K
    · obtain ⟨g6, e6⟩ := owns_head hown6 (by omega)
      subst e6
      have q1 := cell_at hown6 hlt
      rw [HGET.out] at q1
      rcases Nat.lt_trichotomy k i with hki | hki | hki
      · rw [if_neg (by omega)] at q1
        by_cases hl : k < len
        · obtain ⟨g0, e0⟩ := owns_head hownP (by omega)
          subst e0
          have p0 := cell_at hownP hl
          generalize xs.getD k 0 = y at q1 p0
          clear hownP hown6 hbel HGET
          go_wp2
          go_round
          case rel => exact ⟨k + 1, by omega, by go_num⟩
          case measure => simp [intOf]; omega
        · rw [getD_past xs k (by omega)] at q1
          clear hownP hown6 hbel HGET
          go_wp2
          go_round
          case rel => exact ⟨k + 1, by omega, by go_num⟩
          case measure => simp [intOf]; omega
      · subst hki
        rw [if_pos rfl] at q1
        by_cases hl : k < len
        · obtain ⟨g0, e0⟩ := owns_head hownP (by omega)
          subst e0
          have p0 := cell_at hownP hl
          generalize xs.getD k 0 = y at p0
          clear hownP hown6 hbel HGET
          go_wp2
          go_round
          case rel => exact ⟨k + 1, by omega, by go_num⟩
          case measure => simp [intOf]; omega
        · clear hownP hown6 hbel HGET
          go_wp2
          go_round
          case rel => exact ⟨k + 1, by omega, by go_num⟩
          case measure => simp [intOf]; omega
      · rw [if_neg (by omega)] at q1
        by_cases hl : k < len
        · obtain ⟨g0, e0⟩ := owns_head hownP (by omega)
          subst e0
          have p0 := cell_at hownP hl
          generalize xs.getD k 0 = y at q1 p0
          clear hownP hown6 hbel HGET
          go_wp2
          go_round
          case rel => exact ⟨k + 1, by omega, by go_num⟩
          case measure => simp [intOf]; omega
        · rw [getD_past xs k (by omega)] at q1
          clear hownP hown6 hbel HGET
          go_wp2
          go_round
          case rel => exact ⟨k + 1, by omega, by go_num⟩
          case measure => simp [intOf]; omega
    · go_wp2
      go_ret
      exact ⟨rfl, hbel⟩
end Go.Proofs.Qxb6616679aMods.left
