/-
  THE WALKS OF FnChangeEqualOneReplaced out of the contracts of what it calls: one theorem for each value of 'inRemoved'.
-/
import Derived.Test.Qxb6616823aModsBytes
import Derived.Deep.DeepCutAuto
namespace Go.Proofs.Qxb6616823aMods.lists
open Go.ChangeShapes Go.WideShapes Go.ChangeAt Go.RowKit Go.Deep

/-! ### Plain laws, and laws on worlds -/
theorem set_eq_iff {xs : List ByteArray} {i : Nat} {s : ByteArray} (hi : i < xs.length) : xs = xs.set i s ↔ s = xs.getD i ByteArray.empty := by
  constructor
  · intro h
    have := congrArg (fun l => l.getD i ByteArray.empty) h
    simpa [List.getD, hi] using this.symm
  · intro h
    subst h
    simp [List.getD, hi]
theorem beq_bytes (a b : ByteArray) : (a.toList == b.toList) = decide (a = b) := by
  by_cases h : a = b
  · subst h; simp
  · rw [(Lib.bytes_beq_false_iff _ _).2 h, decide_eq_false h]
theorem repl_left {xs ys : List ByteArray} {i : Nat} {s o : ByteArray} (hi : i < xs.length) (ho : xs.getD i ByteArray.empty = o) : decide (xs = xs.set i s ∧ ys = ys) = (s.toList == o.toList) := by
  rw [beq_bytes]; simp only [and_true, set_eq_iff hi, ho]
theorem repl_left' {xs ys : List ByteArray} {i : Nat} {s o : ByteArray} (hi : i < xs.length) (ho : xs.getD i ByteArray.empty = o) : decide (xs.set i s = xs ∧ ys = ys) = (s.toList == o.toList) := by
  rw [beq_bytes]; simp only [and_true, eq_comm (a := xs.set i s), set_eq_iff hi, ho]
theorem repl_right {xs ys : List ByteArray} {i : Nat} {s o : ByteArray} (hi : i < ys.length) (ho : ys.getD i ByteArray.empty = o) : decide (xs = xs ∧ ys = ys.set i s) = (s.toList == o.toList) := by
  rw [beq_bytes]; simp only [true_and, set_eq_iff hi, ho]
theorem repl_right' {xs ys : List ByteArray} {i : Nat} {s o : ByteArray} (hi : i < ys.length) (ho : ys.getD i ByteArray.empty = o) : decide (xs = xs ∧ ys.set i s = ys) = (s.toList == o.toList) := by
  rw [beq_bytes]; simp only [true_and, eq_comm (a := ys.set i s), set_eq_iff hi, ho]
theorem self_eq (xs ys : List ByteArray) : decide (xs = xs ∧ ys = ys) = true := by simp

theorem own_nil {w : World} {n : Nat} {xs : List ByteArray} (h : Src w none n xs) (base : Nat) : Own w base none n 0 xs := by
  obtain rfl := h.2.1 rfl
  obtain rfl : xs = [] := List.eq_nil_of_length_eq_zero h.1
  exact World.ownsRow_nil _ _ _ _
theorem Own.since {w w' : World} {base n c : Nat} {ao : Option Addr} {xs : List ByteArray} (h : Own w base ao n c xs) (hb : Below w.heap.size w w') : Own w' base ao n c xs := by
  have hlt := World.ownsRow.lt h
  obtain ⟨h1, h2⟩ := h
  refine ⟨h1, ?_⟩
  rcases h2 with h2 | ⟨g, cap, cur, hv, hg, hh, r⟩
  · exact .inl h2
  · exact .inr ⟨g, cap, cur, hv, hg, by rw [hb.block g (hlt g (by rw [hv]; rfl)).2]; exact hh, r⟩
theorem own_cell {w : World} {base n c g : Nat} {xs : List ByteArray} (h : Own w base (some ⟨g, 0, none⟩) n c xs) {j : Nat} (hj : j < n) : w.cell? ⟨g, j, none⟩ = some (.string (xs.getD j ByteArray.empty)) := by
  have hl : xs.length = n := by simpa using h.1
  rw [World.ownsRow.cellAt h j (by omega)]
  simp [hl, hj]
theorem own_stored {w : World} {base n c g : Nat} {xs : List ByteArray} (h : Own w base (some ⟨g, 0, none⟩) n c xs) (j : Nat) (s : ByteArray) :
    Own (w.setCell ⟨g, j, none⟩ (.string s)) base (some ⟨g, 0, none⟩) n c (xs.set j s) ∧ base ≤ g ∧ g < w.heap.size := by
  have := (World.ownsRow.stored h j (.string s)).1
  exact ⟨by unfold Own; rwa [List.map_set], World.ownsRow.lt h g rfl⟩
theorem own_beside {w : World} {base n c g j : Nat} {ao : Option Addr} {xs : List ByteArray} (h : Own w base ao n c xs) (hg : g < base) (u : Value) : Own (w.setCell ⟨g, j, none⟩ u) base ao n c xs :=
  ownsRow_setCell_below h (a := ⟨g, j, none⟩) hg u

set_option maxRecDepth 100000 in
set_option maxHeartbeats 4000000 in
theorem replJ (w : World) (a0 a1 : Option Addr) (n0 c0 n1 c1 : Nat) (xs ys : List ByteArray) (s : ByteArray) (i : Int) (hx : Src w a0 n0 xs) (hy : Src w a1 n1 ys) (hc0 : a0 = none → c0 = 0) (hc1 : a1 = none → c1 = 0)
    (hn0 : n0 ≤ maxLen) (hn1 : n1 ≤ maxLen) (hs : s.size ≤ maxLen)
    (hzx : ∀ j, (xs.getD j ByteArray.empty).size ≤ maxLen) (hzy : ∀ j, (ys.getD j ByteArray.empty).size ≤ maxLen) :
    Calls Trym.prog 4 #[.slice a0 n0 c0, .slice a1 n1 c1, .bool false, .int .i64 i, .string s] w fun e w' => e = .returned (.bool true) ∧ Below w.heap.size w w' := by
  have HX : Hid (Src w a0 n0 xs) := hx
  have HY : Hid (Src w a1 n1 ys) := hy
  have HC0 : Hid (a0 = none → c0 = 0) := hc0
  have HC1 : Hid (a1 = none → c1 = 0) := hc1
  have HZX : Hid (∀ j, (xs.getD j ByteArray.empty).size ≤ maxLen) := hzx
  have HZY : Hid (∀ j, (ys.getD j ByteArray.empty).size ≤ maxLen) := hzy
  have M0 : Hid (n0 ≤ maxLen) := hn0
  have M1 : Hid (n1 ≤ maxLen) := hn1
  have MS : Hid (s.size ≤ maxLen) := hs
  have HL : Hid (xs.length = n0 ∧ ys.length = n1) := ⟨hx.1, hy.1⟩
  clear hx hy hc0 hc1 hzx hzy hn0 hn1 hs
  have hne := fun (w : World) (a : Option Addr) (n c : Nat) => run_neq_slice_nil_any (P := Trym.prog) w 22 9 a n c 0 0 Trym.underlying22
  go_enter Trym.func4, Trym.ntmps4
  go_wp2_with fail
  refine (bytes11 w a0 a1 n0 c0 n1 c1 xs ys s i false HX.out HY.out M0.out M1.out MS.out HZX.out HZY.out).mono ?_
  rintro e w' ⟨h, rfl⟩
  rcases h with rfl | ⟨rfl, hn0, hn1, hss⟩
  · go_wp2
    go_ret
    exact ⟨rfl, Below.refl _ _⟩
  go_upto_if 34 with fail
  go_cut [0] (fun s0 wc => ∃ ao c, s0 = .slice ao n0 c ∧ Own wc w.heap.size ao n0 c xs ∧ Below w.heap.size w wc)
  case first =>
    rcases a0 with _ | x
    · have E1 : Hid (c0 = 0) := HC0.out rfl
      go_wp2
      go_meet
      case rel => exact ⟨none, 0, by rw [E1.out], own_nil HX.out _, Below.refl _ _⟩
    · have hmk := run_make_row' (P := Trym.prog) 22 9 (.string ByteArray.empty) 16 Trym.underlying22 Trym.info9 rfl .i64 .i64 n0 (by omega) (by omega)
      obtain ⟨v, W, hcp, hown, hbel⟩ := copied w x n0 c0 xs HX.out hn0
      go_wp2
      go_meet
      case rel => exact ⟨_, _, rfl, hown, hbel⟩
  case rest =>
  obtain ⟨aj, cj, rfl, hownJ, hbelJ⟩ := hcut
  obtain ⟨wJ, rfl⟩ : ∃ x : World, x = wc := ⟨_, rfl⟩
  have HY2 : Hid (Src wJ a1 n1 ys) := HY.out.since hbelJ
  clear HX HY HC0
  go_upto_if 43 with fail
  go_cut [1] (fun s1 wd => ∃ ao c, s1 = .slice ao n1 c ∧ Own wd wJ.heap.size ao n1 c ys ∧ Below wJ.heap.size wJ wd)
  case first =>
    rcases a1 with _ | x
    · have E1 : Hid (c1 = 0) := HC1.out rfl
      go_wp2
      go_meet
      case rel => exact ⟨none, 0, by rw [E1.out], own_nil HY2.out _, Below.refl _ _⟩
    · have hmk := run_make_row' (P := Trym.prog) 22 9 (.string ByteArray.empty) 16 Trym.underlying22 Trym.info9 rfl .i64 .i64 n1 (by omega) (by omega)
      obtain ⟨v, W, hcp, hown, hbel⟩ := copied wJ x n1 c1 ys HY2.out hn1
      go_wp2
      go_meet
      case rel => exact ⟨_, _, rfl, hown, hbel⟩
  case rest =>
  obtain ⟨ar, cr, rfl, hownR, hbelR⟩ := hcut
  have hownJ' := Own.since hownJ hbelR
  have hB : Below w.heap.size w wc := hbelJ.trans (hbelR.mono hbelJ.size)
  clear hownJ hbelJ hbelR HY2 HC1
  go_wp2_with fail
  refine (add_any _ _ aj n0 cj xs (Src.of_owns hownJ') hn0 HZX.out (by omega) (by omega)).mono ?_
  rintro e w' ⟨r, rfl, hr0, hr1, rfl⟩
  go_wp2_with fail
  refine (add_any _ _ ar n1 cr ys (Src.of_owns hownR) hn1 HZY.out hr0 hr1).mono ?_
  rintro e w' ⟨r', rfl, hr0', hr1', rfl⟩
  by_cases t1 : 1048576 < r'
  · go_wp2
    go_ret
    exact ⟨rfl, hB⟩
  by_cases t2 : 65536 < n0
  · go_wp2
    go_ret
    exact ⟨rfl, hB⟩
  by_cases t3 : 65536 < n1
  · go_wp2
    go_ret
    exact ⟨rfl, hB⟩
  by_cases t4 : i < 0
  · go_wp2
    go_ret
    exact ⟨rfl, hB⟩
  by_cases t5 : (n0 : Int) ≤ i
  · go_wp2
    go_ret
    exact ⟨rfl, hB⟩
  obtain ⟨k, rfl⟩ : ∃ k : Nat, i = k := ⟨i.toNat, by omega⟩
  have hk : k < n0 := by omega
  have hkl : k < xs.length := by rw [HL.out.1]; exact hk
  have HKL : Hid (k < xs.length) := hkl
  clear hkl hr0 hr1 hr0' hr1' M0 M1 MS HZX HZY
  obtain ⟨gt, et⟩ := owns_head hownJ' (by omega)
  subst et
  have qt := own_cell hownJ' hk
  generalize ho : xs.getD k ByteArray.empty = o at qt
  have HO : Hid (xs.getD k ByteArray.empty = o) := ho
  clear ho
  go_wp2_with fail
  clear t1 t4 t5
  refine (clone_any _ _ n0 cj xs (Src.of_owns hownJ') hn0).mono ?_
  rintro e w1 ⟨ao1, k1, rfl, O1, B1⟩
  have OJ1 := Own.since hownJ' B1
  have OR1 := Own.since hownR B1
  have hB1 := hB.trans (B1.mono hB.size)
  clear hownJ' hownR B1 hB qt
  go_wp2_with fail
  refine (clone_any _ _ n1 cr ys (Src.of_owns OR1) hn1).mono ?_
  rintro e w2 ⟨ao2, k2, rfl, O2, B2⟩
  have OJ2 := Own.since OJ1 B2
  have OR2 := Own.since OR1 B2
  have OC2 := Own.since O1 B2
  have hB2 := hB1.trans (B2.mono hB1.size)
  clear OJ1 OR1 B2 hB1 O1
  go_wp2_with fail
  refine (clone_any _ _ n0 cj xs (Src.of_owns OJ2) hn0).mono ?_
  rintro e w3 ⟨ao3, k3, rfl, O3, B3⟩
  go_wp2_with fail
  refine (clone_any _ _ n1 cr ys (Src.of_owns (Own.since OR2 B3)) hn1).mono ?_
  rintro e w4 ⟨ao4, k4, rfl, O4, B4⟩
  obtain ⟨g3, e3⟩ := owns_head O3 (by omega)
  subst e3
  have O3' := Own.since O3 B4
  have q3 := own_cell O3' hk
  have f3 := World.ownsRow.frozenAt O3' k
  obtain ⟨P3, hg3, hg3'⟩ := own_stored O3' k s
  have P4 := own_beside (j := k) O4 (World.ownsRow.lt O3 g3 rfl).2 (.string s)
  have hW : Below w2.heap.size w2 (w4.setCell ⟨g3, k, none⟩ (.string s)) := (B3.trans (B4.mono B3.size)).setCell hg3 _
  have S3 := Src.of_owns P3
  have S4 := Src.of_owns P4
  have SJ := Src.of_owns (Own.since OJ2 hW)
  have SR := Src.of_owns (Own.since OR2 hW)
  have S1 := Src.of_owns (Own.since OC2 hW)
  have S2 := Src.of_owns (Own.since O2 hW)
  have hB5 := hB2.trans (hW.mono hB2.size)
  clear hW OJ2 OR2 OC2 O2 hB2 O3 B3 O4 B4
  go_wp2_with fail
  refine (change_to true _ _ _ _ _ _ _ _ _ _ _ _ _ xs ys xs ys S1 S2 SJ SR hn0 hn1 hn0 hn1 (self_eq _ _)).mono ?_
  rintro e w6 ⟨rfl, B6⟩
  go_wp2_with fail
  refine (change_to (s.toList == o.toList) _ _ _ _ _ _ _ _ _ _ _ _ _ xs ys (xs.set k s) ys (SJ.since B6) (SR.since B6) (S3.since B6) (S4.since B6) hn0 hn1 hn0 hn1 (repl_left HKL.out HO.out)).mono ?_
  rintro e w7 ⟨rfl, B7⟩
  have hB67 := B6.trans (B7.mono B6.size)
  go_wp2_with fail
  refine (change_to (s.toList == o.toList) _ _ _ _ _ _ _ _ _ _ _ _ _ (xs.set k s) ys xs ys (S3.since hB67) (S4.since hB67) (SJ.since hB67) (SR.since hB67) hn0 hn1 hn0 hn1 (repl_left' HKL.out HO.out)).mono ?_
  rintro e w8 ⟨rfl, B8⟩
  have hB8 := hB67.trans (B8.mono hB67.size)
  have hfin := hB5.trans (hB8.mono hB5.size)
  clear SJ SR S1 S2 S3 S4 B6 B7 B8 hB67 hB8 hB5
  go_wp2
  go_ret
  exact ⟨rfl, hfin⟩

set_option maxRecDepth 100000 in
set_option maxHeartbeats 4000000 in
theorem replR (w : World) (a0 a1 : Option Addr) (n0 c0 n1 c1 : Nat) (xs ys : List ByteArray) (s : ByteArray) (i : Int) (hx : Src w a0 n0 xs) (hy : Src w a1 n1 ys) (hc0 : a0 = none → c0 = 0) (hc1 : a1 = none → c1 = 0)
    (hn0 : n0 ≤ maxLen) (hn1 : n1 ≤ maxLen) (hs : s.size ≤ maxLen)
    (hzx : ∀ j, (xs.getD j ByteArray.empty).size ≤ maxLen) (hzy : ∀ j, (ys.getD j ByteArray.empty).size ≤ maxLen) :
    Calls Trym.prog 4 #[.slice a0 n0 c0, .slice a1 n1 c1, .bool true, .int .i64 i, .string s] w fun e w' => e = .returned (.bool true) ∧ Below w.heap.size w w' := by
  have HX : Hid (Src w a0 n0 xs) := hx
  have HY : Hid (Src w a1 n1 ys) := hy
  have HC0 : Hid (a0 = none → c0 = 0) := hc0
  have HC1 : Hid (a1 = none → c1 = 0) := hc1
  have HZX : Hid (∀ j, (xs.getD j ByteArray.empty).size ≤ maxLen) := hzx
  have HZY : Hid (∀ j, (ys.getD j ByteArray.empty).size ≤ maxLen) := hzy
  have M0 : Hid (n0 ≤ maxLen) := hn0
  have M1 : Hid (n1 ≤ maxLen) := hn1
  have MS : Hid (s.size ≤ maxLen) := hs
  have HL : Hid (xs.length = n0 ∧ ys.length = n1) := ⟨hx.1, hy.1⟩
  clear hx hy hc0 hc1 hzx hzy hn0 hn1 hs
  have hne := fun (w : World) (a : Option Addr) (n c : Nat) => run_neq_slice_nil_any (P := Trym.prog) w 22 9 a n c 0 0 Trym.underlying22
  go_enter Trym.func4, Trym.ntmps4
  go_wp2_with fail
  refine (bytes11 w a0 a1 n0 c0 n1 c1 xs ys s i true HX.out HY.out M0.out M1.out MS.out HZX.out HZY.out).mono ?_
  rintro e w' ⟨h, rfl⟩
  rcases h with rfl | ⟨rfl, hn0, hn1, hss⟩
  · go_wp2
    go_ret
    exact ⟨rfl, Below.refl _ _⟩
  go_upto_if 34 with fail
  go_cut [0] (fun s0 wc => ∃ ao c, s0 = .slice ao n0 c ∧ Own wc w.heap.size ao n0 c xs ∧ Below w.heap.size w wc)
  case first =>
    rcases a0 with _ | x
    · have E1 : Hid (c0 = 0) := HC0.out rfl
      go_wp2
      go_meet
      case rel => exact ⟨none, 0, by rw [E1.out], own_nil HX.out _, Below.refl _ _⟩
    · have hmk := run_make_row' (P := Trym.prog) 22 9 (.string ByteArray.empty) 16 Trym.underlying22 Trym.info9 rfl .i64 .i64 n0 (by omega) (by omega)
      obtain ⟨v, W, hcp, hown, hbel⟩ := copied w x n0 c0 xs HX.out hn0
      go_wp2
      go_meet
      case rel => exact ⟨_, _, rfl, hown, hbel⟩
  case rest =>
  obtain ⟨aj, cj, rfl, hownJ, hbelJ⟩ := hcut
  obtain ⟨wJ, rfl⟩ : ∃ x : World, x = wc := ⟨_, rfl⟩
  have HY2 : Hid (Src wJ a1 n1 ys) := HY.out.since hbelJ
  clear HX HY HC0
  go_upto_if 43 with fail
  go_cut [1] (fun s1 wd => ∃ ao c, s1 = .slice ao n1 c ∧ Own wd wJ.heap.size ao n1 c ys ∧ Below wJ.heap.size wJ wd)
  case first =>
    rcases a1 with _ | x
    · have E1 : Hid (c1 = 0) := HC1.out rfl
      go_wp2
      go_meet
      case rel => exact ⟨none, 0, by rw [E1.out], own_nil HY2.out _, Below.refl _ _⟩
    · have hmk := run_make_row' (P := Trym.prog) 22 9 (.string ByteArray.empty) 16 Trym.underlying22 Trym.info9 rfl .i64 .i64 n1 (by omega) (by omega)
      obtain ⟨v, W, hcp, hown, hbel⟩ := copied wJ x n1 c1 ys HY2.out hn1
      go_wp2
      go_meet
      case rel => exact ⟨_, _, rfl, hown, hbel⟩
  case rest =>
  obtain ⟨ar, cr, rfl, hownR, hbelR⟩ := hcut
  have hownJ' := Own.since hownJ hbelR
  have hB : Below w.heap.size w wc := hbelJ.trans (hbelR.mono hbelJ.size)
  clear hownJ hbelJ hbelR HY2 HC1
  go_wp2_with fail
  refine (add_any _ _ aj n0 cj xs (Src.of_owns hownJ') hn0 HZX.out (by omega) (by omega)).mono ?_
  rintro e w' ⟨r, rfl, hr0, hr1, rfl⟩
  go_wp2_with fail
  refine (add_any _ _ ar n1 cr ys (Src.of_owns hownR) hn1 HZY.out hr0 hr1).mono ?_
  rintro e w' ⟨r', rfl, hr0', hr1', rfl⟩
  by_cases t1 : 1048576 < r'
  · go_wp2
    go_ret
    exact ⟨rfl, hB⟩
  by_cases t2 : 65536 < n0
  · go_wp2
    go_ret
    exact ⟨rfl, hB⟩
  by_cases t3 : 65536 < n1
  · go_wp2
    go_ret
    exact ⟨rfl, hB⟩
  by_cases t4 : i < 0
  · go_wp2
    go_ret
    exact ⟨rfl, hB⟩
  by_cases t5 : (n1 : Int) ≤ i
  · go_wp2
    go_ret
    exact ⟨rfl, hB⟩
  obtain ⟨k, rfl⟩ : ∃ k : Nat, i = k := ⟨i.toNat, by omega⟩
  have hk : k < n1 := by omega
  have hkl : k < ys.length := by rw [HL.out.2]; exact hk
  have HKL : Hid (k < ys.length) := hkl
  clear hkl hr0 hr1 hr0' hr1' M0 M1 MS HZX HZY
  obtain ⟨gt, et⟩ := owns_head hownR (by omega)
  subst et
  have qt := own_cell hownR hk
  generalize ho : ys.getD k ByteArray.empty = o at qt
  have HO : Hid (ys.getD k ByteArray.empty = o) := ho
  clear ho
  go_wp2_with fail
  clear t1 t4 t5
  refine (clone_any _ _ n0 cj xs (Src.of_owns hownJ') hn0).mono ?_
  rintro e w1 ⟨ao1, k1, rfl, O1, B1⟩
  have OJ1 := Own.since hownJ' B1
  have OR1 := Own.since hownR B1
  have hB1 := hB.trans (B1.mono hB.size)
  clear hownJ' hownR B1 hB qt
  go_wp2_with fail
  refine (clone_any _ _ n1 cr ys (Src.of_owns OR1) hn1).mono ?_
  rintro e w2 ⟨ao2, k2, rfl, O2, B2⟩
  have OJ2 := Own.since OJ1 B2
  have OR2 := Own.since OR1 B2
  have OC2 := Own.since O1 B2
  have hB2 := hB1.trans (B2.mono hB1.size)
  clear OJ1 OR1 B2 hB1 O1
  go_wp2_with fail
  refine (clone_any _ _ n0 cj xs (Src.of_owns OJ2) hn0).mono ?_
  rintro e w3 ⟨ao3, k3, rfl, O3, B3⟩
  go_wp2_with fail
  refine (clone_any _ _ n1 cr ys (Src.of_owns (Own.since OR2 B3)) hn1).mono ?_
  rintro e w4 ⟨ao4, k4, rfl, O4, B4⟩
  obtain ⟨g4, e4⟩ := owns_head O4 (by omega)
  subst e4
  have q3 := own_cell O4 hk
  have f3 := World.ownsRow.frozenAt O4 k
  obtain ⟨P4, hg4, hg4'⟩ := own_stored O4 k s
  have hW3 : Below w3.heap.size w3 (w4.setCell ⟨g4, k, none⟩ (.string s)) := B4.setCell hg4 _
  have hW : Below w2.heap.size w2 (w4.setCell ⟨g4, k, none⟩ (.string s)) := B3.trans (hW3.mono B3.size)
  have S3 := Src.of_owns (Own.since O3 hW3)
  have S4 := Src.of_owns P4
  have SJ := Src.of_owns (Own.since OJ2 hW)
  have SR := Src.of_owns (Own.since OR2 hW)
  have S1 := Src.of_owns (Own.since OC2 hW)
  have S2 := Src.of_owns (Own.since O2 hW)
  have hB5 := hB2.trans (hW.mono hB2.size)
  clear hW OJ2 OR2 OC2 O2 hB2 O3 B3 O4 B4
  go_wp2_with fail
  refine (change_to true _ _ _ _ _ _ _ _ _ _ _ _ _ xs ys xs ys S1 S2 SJ SR hn0 hn1 hn0 hn1 (self_eq _ _)).mono ?_
  rintro e w6 ⟨rfl, B6⟩
  go_wp2_with fail
  refine (change_to (s.toList == o.toList) _ _ _ _ _ _ _ _ _ _ _ _ _ xs ys xs (ys.set k s) (SJ.since B6) (SR.since B6) (S3.since B6) (S4.since B6) hn0 hn1 hn0 hn1 (repl_right HKL.out HO.out)).mono ?_
  rintro e w7 ⟨rfl, B7⟩
  have hB67 := B6.trans (B7.mono B6.size)
  go_wp2_with fail
  refine (change_to (s.toList == o.toList) _ _ _ _ _ _ _ _ _ _ _ _ _ xs (ys.set k s) xs ys (S3.since hB67) (S4.since hB67) (SJ.since hB67) (SR.since hB67) hn0 hn1 hn0 hn1 (repl_right' HKL.out HO.out)).mono ?_
  rintro e w8 ⟨rfl, B8⟩
  have hB8 := hB67.trans (B8.mono hB67.size)
  have hfin := hB5.trans (hB8.mono hB5.size)
  clear SJ SR S1 S2 S3 S4 B6 B7 B8 hB67 hB8 hB5
  go_wp2
  go_ret
  exact ⟨rfl, hfin⟩
end Go.Proofs.Qxb6616823aMods.lists

