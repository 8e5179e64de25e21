/-
  THE WALKS OF FnChangeEqualSelfAndOneInserted out of the contracts of what it calls: one theorem for each value of 'inRemoved'.
-/
import Derived.Test.Qxb6616823aModsInsert
namespace Go.Proofs.Qxb6616823aMods.lists
open Go.ChangeShapes Go.WideShapes Go.ChangeAt Go.RowKit Go.Deep

/-! ### Plain laws -/
/-- xs with s put in at k. -/
def ins (xs : List ByteArray) (k : Nat) (s : ByteArray) : List ByteArray := xs.take k ++ s :: xs.drop k
theorem ins_length (xs : List ByteArray) (k : Nat) (s : ByteArray) (hk : k ≤ xs.length) : (ins xs k s).length = xs.length + 1 := by unfold ins; simp; omega
theorem ins_ne (xs : List ByteArray) (k : Nat) (s : ByteArray) (hk : k ≤ xs.length) : ¬ xs = ins xs k s := fun e => by
  have := congrArg List.length e
  rw [ins_length xs k s hk] at this
  omega
theorem ins_left (xs ys : List ByteArray) (k : Nat) (s : ByteArray) (hk : k ≤ xs.length) : decide (xs = ins xs k s ∧ ys = ys) = false := decide_eq_false fun h => ins_ne xs k s hk h.1
theorem ins_left' (xs ys : List ByteArray) (k : Nat) (s : ByteArray) (hk : k ≤ xs.length) : decide (ins xs k s = xs ∧ ys = ys) = false := decide_eq_false fun h => ins_ne xs k s hk h.1.symm
theorem ins_right (xs ys : List ByteArray) (k : Nat) (s : ByteArray) (hk : k ≤ ys.length) : decide (xs = xs ∧ ys = ins ys k s) = false := decide_eq_false fun h => ins_ne ys k s hk h.2
theorem ins_right' (xs ys : List ByteArray) (k : Nat) (s : ByteArray) (hk : k ≤ ys.length) : decide (xs = xs ∧ ins ys k s = ys) = false := decide_eq_false fun h => ins_ne ys k s hk h.2.symm

theorem insert_to (w : World) (ao : Option Addr) (n c k : Nat) (xs : List ByteArray) (s : ByteArray) (hs : Src w ao n xs) (hn : n ≤ 65536) (hk : k ≤ n) :
    Calls Trym.prog 9 #[.slice ao n c, .int .i64 (k : Int), .string s] w fun e w' => ∃ ao' c', e = .returned (.slice ao' (n + 1) c') ∧ Src w' ao' (n + 1) (ins xs k s) ∧ Below w.heap.size w w' := by
  refine (insert_any w ao n c k xs s hs hn hk).mono fun e w' ⟨v, he, hown, hb⟩ => ?_
  rcases hown.2 with ⟨_, h⟩ | ⟨g, cap, cur, hv, _⟩
  · omega
  · subst hv
    exact ⟨_, _, he, Src.of_owns hown, hb⟩

set_option maxRecDepth 100000 in
set_option maxHeartbeats 4000000 in
theorem insJ (w : World) (a0 a1 : Option Addr) (n0 c0 n1 c1 : Nat) (xs ys : List ByteArray) (s : ByteArray) (i : Int) (hx : Src w a0 n0 xs) (hy : Src w a1 n1 ys) (hc0 : a0 = none → c0 = 0) (hc1 : a1 = none → c1 = 0)
    (hn0 : n0 ≤ maxLen) (hn1 : n1 ≤ maxLen) (hs : s.size ≤ maxLen)
    (hzx : ∀ j, (xs.getD j ByteArray.empty).size ≤ maxLen) (hzy : ∀ j, (ys.getD j ByteArray.empty).size ≤ maxLen) :
    Calls Trym.prog 3 #[.slice a0 n0 c0, .slice a1 n1 c1, .string s, .int .i64 i, .bool false] w fun e w' => e = .returned (.bool true) ∧ Below w.heap.size w w' := by
  have HX : Hid (Src w a0 n0 xs) := hx
  have HY : Hid (Src w a1 n1 ys) := hy
  have HC0 : Hid (a0 = none → c0 = 0) := hc0
  have HC1 : Hid (a1 = none → c1 = 0) := hc1
  have HZX : Hid (∀ j, (xs.getD j ByteArray.empty).size ≤ maxLen) := hzx
  have HZY : Hid (∀ j, (ys.getD j ByteArray.empty).size ≤ maxLen) := hzy
  have M0 : Hid (n0 ≤ maxLen) := hn0
  have M1 : Hid (n1 ≤ maxLen) := hn1
  have MS : Hid (s.size ≤ maxLen) := hs
  have HL : Hid (xs.length = n0 ∧ ys.length = n1) := ⟨hx.1, hy.1⟩
  clear hx hy hc0 hc1 hzx hzy hn0 hn1 hs
  have hne := fun (w : World) (a : Option Addr) (n c : Nat) => run_neq_slice_nil_any (P := Trym.prog) w 22 9 a n c 0 0 Trym.underlying22
  go_enter Trym.func3, Trym.ntmps3
  go_wp2_with fail
  refine (bytes5 w a0 a1 n0 c0 n1 c1 xs ys s i false HX.out HY.out M0.out M1.out MS.out HZX.out HZY.out).mono ?_
  rintro e w' ⟨h, rfl⟩
  rcases h with rfl | ⟨rfl, hn0, hn1, hss⟩
  · go_wp2
    go_ret
    exact ⟨rfl, Below.refl _ _⟩
  go_upto_if 38 with fail
  go_cut [0] (fun s0 wc => ∃ ao c, s0 = .slice ao n0 c ∧ Own wc w.heap.size ao n0 c xs ∧ Below w.heap.size w wc)
  case first =>
    rcases a0 with _ | x
    · have E1 : Hid (c0 = 0) := HC0.out rfl
      go_wp2
      go_meet
      case rel => exact ⟨none, 0, by rw [E1.out], own_nil HX.out _, Below.refl _ _⟩
    · have hmk := run_make_row' (P := Trym.prog) 22 9 (.string ByteArray.empty) 16 Trym.underlying22 Trym.info9 rfl .i64 .i64 n0 (by omega) (by omega)
      obtain ⟨v, W, hcp, hown, hbel⟩ := copied w x n0 c0 xs HX.out hn0
      go_wp2
      go_meet
      case rel => exact ⟨_, _, rfl, hown, hbel⟩
  case rest =>
  obtain ⟨aj, cj, rfl, hownJ, hbelJ⟩ := hcut
  obtain ⟨wJ, rfl⟩ : ∃ x : World, x = wc := ⟨_, rfl⟩
  have HY2 : Hid (Src wJ a1 n1 ys) := HY.out.since hbelJ
  clear HX HY HC0
  go_upto_if 47 with fail
  go_cut [1] (fun s1 wd => ∃ ao c, s1 = .slice ao n1 c ∧ Own wd wJ.heap.size ao n1 c ys ∧ Below wJ.heap.size wJ wd)
  case first =>
    rcases a1 with _ | x
    · have E1 : Hid (c1 = 0) := HC1.out rfl
      go_wp2
      go_meet
      case rel => exact ⟨none, 0, by rw [E1.out], own_nil HY2.out _, Below.refl _ _⟩
    · have hmk := run_make_row' (P := Trym.prog) 22 9 (.string ByteArray.empty) 16 Trym.underlying22 Trym.info9 rfl .i64 .i64 n1 (by omega) (by omega)
      obtain ⟨v, W, hcp, hown, hbel⟩ := copied wJ x n1 c1 ys HY2.out hn1
      go_wp2
      go_meet
      case rel => exact ⟨_, _, rfl, hown, hbel⟩
  case rest =>
  obtain ⟨ar, cr, rfl, hownR, hbelR⟩ := hcut
  have SJ0 := Src.of_owns (Own.since hownJ hbelR)
  have SR0 := Src.of_owns hownR
  have hB0 : Below w.heap.size w wc := hbelJ.trans (hbelR.mono hbelJ.size)
  clear hownJ hbelJ hbelR HY2 HC1 hownR
  go_wp2_with fail
  refine (add_any _ _ aj n0 cj xs SJ0 hn0 HZX.out (by omega) (by omega)).mono ?_
  rintro e w' ⟨r, rfl, hr0, hr1, rfl⟩
  go_wp2_with fail
  refine (add_any _ _ ar n1 cr ys SR0 hn1 HZY.out hr0 hr1).mono ?_
  rintro e w' ⟨r', rfl, hr0', hr1', rfl⟩
  by_cases t1 : 1048576 < r'
  · go_wp2
    go_ret
    exact ⟨rfl, hB0⟩
  by_cases t2 : 65536 < n0
  · go_wp2
    go_ret
    exact ⟨rfl, hB0⟩
  by_cases t3 : 65536 < n1
  · go_wp2
    go_ret
    exact ⟨rfl, hB0⟩
  by_cases t4 : i < 0
  · go_wp2
    go_ret
    exact ⟨rfl, hB0⟩
  by_cases t5 : (n0 : Int) < i
  · go_wp2
    go_ret
    exact ⟨rfl, hB0⟩
  obtain ⟨k, rfl⟩ : ∃ k : Nat, i = k := ⟨i.toNat, by omega⟩
  have hk : k ≤ n0 := by omega
  have HKL : Hid (k ≤ xs.length) := by show _ ≤ _; rw [HL.out.1]; exact hk
  clear hr0 hr1 hr0' hr1' M0 M1 MS HZX HZY
  go_wp2_with fail
  clear t1 t4 t5
  refine (clone_any _ _ n0 cj xs SJ0 hn0).mono ?_
  rintro e w1 ⟨ac, cc, rfl, OO, B1⟩
  have SJ1 := SJ0.since B1
  have SR1 := SR0.since B1
  have hB1 := hB0.trans (B1.mono hB0.size)
  have SC1 := Src.of_owns OO
  clear SJ0 SR0 hB0 B1 OO
  go_wp2_with fail
  refine (clone_any _ _ n1 cr ys SR1 hn1).mono ?_
  rintro e w2 ⟨ad, cd, rfl, OO, B2⟩
  have SJ2 := SJ1.since B2
  have SR2 := SR1.since B2
  have SC2 := SC1.since B2
  have hB2 := hB1.trans (B2.mono hB1.size)
  have SD2 := Src.of_owns OO
  clear SJ1 SR1 SC1 hB1 B2 OO
  go_wp2_with fail
  refine (flip_any _ _ n0 cj xs SJ2 hn0).mono ?_
  rintro e w3 ⟨ae, ce, rfl, SS, B3⟩
  have SJ3 := SJ2.since B3
  have SR3 := SR2.since B3
  have SC3 := SC2.since B3
  have SD3 := SD2.since B3
  have hB3 := hB2.trans (B3.mono hB2.size)
  have SE3 := SS
  clear SJ2 SR2 SC2 SD2 hB2 B3 SS
  go_wp2_with fail
  refine (flip_any _ _ n1 cr ys SR3 hn1).mono ?_
  rintro e w4 ⟨af, cf, rfl, SS, B4⟩
  have SJ4 := SJ3.since B4
  have SR4 := SR3.since B4
  have SC4 := SC3.since B4
  have SD4 := SD3.since B4
  have SE4 := SE3.since B4
  have hB4 := hB3.trans (B4.mono hB3.size)
  have SF4 := SS
  clear SJ3 SR3 SC3 SD3 SE3 hB3 B4 SS
  go_wp2_with fail
  refine (clone_any _ _ n0 cj xs SJ4 hn0).mono ?_
  rintro e w5 ⟨ag, cg, rfl, OO, B5⟩
  have SJ5 := SJ4.since B5
  have SR5 := SR4.since B5
  have SC5 := SC4.since B5
  have SD5 := SD4.since B5
  have SE5 := SE4.since B5
  have SF5 := SF4.since B5
  have hB5 := hB4.trans (B5.mono hB4.size)
  have SG5 := Src.of_owns OO
  clear SJ4 SR4 SC4 SD4 SE4 SF4 hB4 B5 OO
  go_wp2_with fail
  refine (clone_any _ _ n1 cr ys SR5 hn1).mono ?_
  rintro e w6 ⟨ah, ch, rfl, OO, B6⟩
  have SJ6 := SJ5.since B6
  have SR6 := SR5.since B6
  have SC6 := SC5.since B6
  have SD6 := SD5.since B6
  have SE6 := SE5.since B6
  have SF6 := SF5.since B6
  have SG6 := SG5.since B6
  have hB6 := hB5.trans (B6.mono hB5.size)
  have SH6 := Src.of_owns OO
  clear SJ5 SR5 SC5 SD5 SE5 SF5 SG5 hB5 B6 OO
  go_wp2_with fail
  refine (insert_to _ _ n0 cj k xs s SJ6 (by omega) hk).mono ?_
  rintro e w7 ⟨ai, ci, rfl, SS, B7⟩
  have SJ7 := SJ6.since B7
  have SR7 := SR6.since B7
  have SC7 := SC6.since B7
  have SD7 := SD6.since B7
  have SE7 := SE6.since B7
  have SF7 := SF6.since B7
  have SG7 := SG6.since B7
  have SH7 := SH6.since B7
  have hB7 := hB6.trans (B7.mono hB6.size)
  have SI7 := SS
  clear SJ6 SR6 SC6 SD6 SE6 SF6 SG6 SH6 hB6 B7 SS
  go_wp2_with fail
  refine (change_to true _ _ _ _ _ _ _ _ _ _ _ _ _ xs ys xs ys SJ7 SR7 SJ7 SR7 hn0 hn1 hn0 hn1 (self_eq _ _)).mono ?_
  rintro e w8 ⟨rfl, B8⟩
  have SJ8 := SJ7.since B8
  have SR8 := SR7.since B8
  have SC8 := SC7.since B8
  have SD8 := SD7.since B8
  have SE8 := SE7.since B8
  have SF8 := SF7.since B8
  have SG8 := SG7.since B8
  have SH8 := SH7.since B8
  have SI8 := SI7.since B8
  have hB8 := hB7.trans (B8.mono hB7.size)
  clear SJ7 SR7 SC7 SD7 SE7 SF7 SG7 SH7 SI7 hB7 B8
  go_wp2_with fail
  refine (change_to true _ _ _ _ _ _ _ _ _ _ _ _ _ xs ys xs ys SJ8 SR8 SC8 SD8 hn0 hn1 hn0 hn1 (self_eq _ _)).mono ?_
  rintro e w9 ⟨rfl, B9⟩
  have SJ9 := SJ8.since B9
  have SR9 := SR8.since B9
  have SC9 := SC8.since B9
  have SD9 := SD8.since B9
  have SE9 := SE8.since B9
  have SF9 := SF8.since B9
  have SG9 := SG8.since B9
  have SH9 := SH8.since B9
  have SI9 := SI8.since B9
  have hB9 := hB8.trans (B9.mono hB8.size)
  clear SJ8 SR8 SC8 SD8 SE8 SF8 SG8 SH8 SI8 hB8 B9
  go_wp2_with fail
  refine (change_to true _ _ _ _ _ _ _ _ _ _ _ _ _ xs ys xs ys SE9 SF9 SJ9 SR9 hn0 hn1 hn0 hn1 (self_eq _ _)).mono ?_
  rintro e w10 ⟨rfl, B10⟩
  have SJ10 := SJ9.since B10
  have SR10 := SR9.since B10
  have SC10 := SC9.since B10
  have SD10 := SD9.since B10
  have SE10 := SE9.since B10
  have SF10 := SF9.since B10
  have SG10 := SG9.since B10
  have SH10 := SH9.since B10
  have SI10 := SI9.since B10
  have hB10 := hB9.trans (B10.mono hB9.size)
  clear SJ9 SR9 SC9 SD9 SE9 SF9 SG9 SH9 SI9 hB9 B10
  go_wp2_with fail
  refine (change_to true _ _ _ _ _ _ _ _ _ _ _ _ _ (ins xs k s) ys (ins xs k s) ys SI10 SH10 SI10 SH10 (by omega) hn1 (by omega) hn1 (self_eq _ _)).mono ?_
  rintro e w11 ⟨rfl, B11⟩
  have SJ11 := SJ10.since B11
  have SR11 := SR10.since B11
  have SC11 := SC10.since B11
  have SD11 := SD10.since B11
  have SE11 := SE10.since B11
  have SF11 := SF10.since B11
  have SG11 := SG10.since B11
  have SH11 := SH10.since B11
  have SI11 := SI10.since B11
  have hB11 := hB10.trans (B11.mono hB10.size)
  clear SJ10 SR10 SC10 SD10 SE10 SF10 SG10 SH10 SI10 hB10 B11
  go_wp2_with fail
  refine (change_to false _ _ _ _ _ _ _ _ _ _ _ _ _ xs ys (ins xs k s) ys SJ11 SR11 SI11 SH11 hn0 hn1 (by omega) hn1 (ins_left _ _ _ _ HKL.out)).mono ?_
  rintro e w12 ⟨rfl, B12⟩
  have SJ12 := SJ11.since B12
  have SR12 := SR11.since B12
  have SC12 := SC11.since B12
  have SD12 := SD11.since B12
  have SE12 := SE11.since B12
  have SF12 := SF11.since B12
  have SG12 := SG11.since B12
  have SH12 := SH11.since B12
  have SI12 := SI11.since B12
  have hB12 := hB11.trans (B12.mono hB11.size)
  clear SJ11 SR11 SC11 SD11 SE11 SF11 SG11 SH11 SI11 hB11 B12
  go_wp2_with fail
  refine (change_to false _ _ _ _ _ _ _ _ _ _ _ _ _ (ins xs k s) ys xs ys SI12 SH12 SJ12 SR12 (by omega) hn1 hn0 hn1 (ins_left' _ _ _ _ HKL.out)).mono ?_
  rintro e w13 ⟨rfl, B13⟩
  have SJ13 := SJ12.since B13
  have SR13 := SR12.since B13
  have SC13 := SC12.since B13
  have SD13 := SD12.since B13
  have SE13 := SE12.since B13
  have SF13 := SF12.since B13
  have SG13 := SG12.since B13
  have SH13 := SH12.since B13
  have SI13 := SI12.since B13
  have hB13 := hB12.trans (B13.mono hB12.size)
  clear SJ12 SR12 SC12 SD12 SE12 SF12 SG12 SH12 SI12 hB12 B13
  go_wp2_with fail
  go_ret
  exact ⟨rfl, hB13⟩

set_option maxRecDepth 100000 in
set_option maxHeartbeats 4000000 in
theorem insR (w : World) (a0 a1 : Option Addr) (n0 c0 n1 c1 : Nat) (xs ys : List ByteArray) (s : ByteArray) (i : Int) (hx : Src w a0 n0 xs) (hy : Src w a1 n1 ys) (hc0 : a0 = none → c0 = 0) (hc1 : a1 = none → c1 = 0)
    (hn0 : n0 ≤ maxLen) (hn1 : n1 ≤ maxLen) (hs : s.size ≤ maxLen)
    (hzx : ∀ j, (xs.getD j ByteArray.empty).size ≤ maxLen) (hzy : ∀ j, (ys.getD j ByteArray.empty).size ≤ maxLen) :
    Calls Trym.prog 3 #[.slice a0 n0 c0, .slice a1 n1 c1, .string s, .int .i64 i, .bool true] w fun e w' => e = .returned (.bool true) ∧ Below w.heap.size w w' := by
  have HX : Hid (Src w a0 n0 xs) := hx
  have HY : Hid (Src w a1 n1 ys) := hy
  have HC0 : Hid (a0 = none → c0 = 0) := hc0
  have HC1 : Hid (a1 = none → c1 = 0) := hc1
  have HZX : Hid (∀ j, (xs.getD j ByteArray.empty).size ≤ maxLen) := hzx
  have HZY : Hid (∀ j, (ys.getD j ByteArray.empty).size ≤ maxLen) := hzy
  have M0 : Hid (n0 ≤ maxLen) := hn0
  have M1 : Hid (n1 ≤ maxLen) := hn1
  have MS : Hid (s.size ≤ maxLen) := hs
  have HL : Hid (xs.length = n0 ∧ ys.length = n1) := ⟨hx.1, hy.1⟩
  clear hx hy hc0 hc1 hzx hzy hn0 hn1 hs
  have hne := fun (w : World) (a : Option Addr) (n c : Nat) => run_neq_slice_nil_any (P := Trym.prog) w 22 9 a n c 0 0 Trym.underlying22
  go_enter Trym.func3, Trym.ntmps3
  go_wp2_with fail
  refine (bytes5 w a0 a1 n0 c0 n1 c1 xs ys s i true HX.out HY.out M0.out M1.out MS.out HZX.out HZY.out).mono ?_
  rintro e w' ⟨h, rfl⟩
  rcases h with rfl | ⟨rfl, hn0, hn1, hss⟩
  · go_wp2
    go_ret
    exact ⟨rfl, Below.refl _ _⟩
  go_upto_if 38 with fail
  go_cut [0] (fun s0 wc => ∃ ao c, s0 = .slice ao n0 c ∧ Own wc w.heap.size ao n0 c xs ∧ Below w.heap.size w wc)
  case first =>
    rcases a0 with _ | x
    · have E1 : Hid (c0 = 0) := HC0.out rfl
      go_wp2
      go_meet
      case rel => exact ⟨none, 0, by rw [E1.out], own_nil HX.out _, Below.refl _ _⟩
    · have hmk := run_make_row' (P := Trym.prog) 22 9 (.string ByteArray.empty) 16 Trym.underlying22 Trym.info9 rfl .i64 .i64 n0 (by omega) (by omega)
      obtain ⟨v, W, hcp, hown, hbel⟩ := copied w x n0 c0 xs HX.out hn0
      go_wp2
      go_meet
      case rel => exact ⟨_, _, rfl, hown, hbel⟩
  case rest =>
  obtain ⟨aj, cj, rfl, hownJ, hbelJ⟩ := hcut
  obtain ⟨wJ, rfl⟩ : ∃ x : World, x = wc := ⟨_, rfl⟩
  have HY2 : Hid (Src wJ a1 n1 ys) := HY.out.since hbelJ
  clear HX HY HC0
  go_upto_if 47 with fail
  go_cut [1] (fun s1 wd => ∃ ao c, s1 = .slice ao n1 c ∧ Own wd wJ.heap.size ao n1 c ys ∧ Below wJ.heap.size wJ wd)
  case first =>
    rcases a1 with _ | x
    · have E1 : Hid (c1 = 0) := HC1.out rfl
      go_wp2
      go_meet
      case rel => exact ⟨none, 0, by rw [E1.out], own_nil HY2.out _, Below.refl _ _⟩
    · have hmk := run_make_row' (P := Trym.prog) 22 9 (.string ByteArray.empty) 16 Trym.underlying22 Trym.info9 rfl .i64 .i64 n1 (by omega) (by omega)
      obtain ⟨v, W, hcp, hown, hbel⟩ := copied wJ x n1 c1 ys HY2.out hn1
      go_wp2
      go_meet
      case rel => exact ⟨_, _, rfl, hown, hbel⟩
  case rest =>
  obtain ⟨ar, cr, rfl, hownR, hbelR⟩ := hcut
  have SJ0 := Src.of_owns (Own.since hownJ hbelR)
  have SR0 := Src.of_owns hownR
  have hB0 : Below w.heap.size w wc := hbelJ.trans (hbelR.mono hbelJ.size)
  clear hownJ hbelJ hbelR HY2 HC1 hownR
  go_wp2_with fail
  refine (add_any _ _ aj n0 cj xs SJ0 hn0 HZX.out (by omega) (by omega)).mono ?_
  rintro e w' ⟨r, rfl, hr0, hr1, rfl⟩
  go_wp2_with fail
  refine (add_any _ _ ar n1 cr ys SR0 hn1 HZY.out hr0 hr1).mono ?_
  rintro e w' ⟨r', rfl, hr0', hr1', rfl⟩
  by_cases t1 : 1048576 < r'
  · go_wp2
    go_ret
    exact ⟨rfl, hB0⟩
  by_cases t2 : 65536 < n0
  · go_wp2
    go_ret
    exact ⟨rfl, hB0⟩
  by_cases t3 : 65536 < n1
  · go_wp2
    go_ret
    exact ⟨rfl, hB0⟩
  by_cases t4 : i < 0
  · go_wp2
    go_ret
    exact ⟨rfl, hB0⟩
  by_cases t5 : (n1 : Int) < i
  · go_wp2
    go_ret
    exact ⟨rfl, hB0⟩
  obtain ⟨k, rfl⟩ : ∃ k : Nat, i = k := ⟨i.toNat, by omega⟩
  have hk : k ≤ n1 := by omega
  have HKL : Hid (k ≤ ys.length) := by show _ ≤ _; rw [HL.out.2]; exact hk
  clear hr0 hr1 hr0' hr1' M0 M1 MS HZX HZY
  go_wp2_with fail
  clear t1 t4 t5
  refine (clone_any _ _ n0 cj xs SJ0 hn0).mono ?_
  rintro e w1 ⟨ac, cc, rfl, OO, B1⟩
  have SJ1 := SJ0.since B1
  have SR1 := SR0.since B1
  have hB1 := hB0.trans (B1.mono hB0.size)
  have SC1 := Src.of_owns OO
  clear SJ0 SR0 hB0 B1 OO
  go_wp2_with fail
  refine (clone_any _ _ n1 cr ys SR1 hn1).mono ?_
  rintro e w2 ⟨ad, cd, rfl, OO, B2⟩
  have SJ2 := SJ1.since B2
  have SR2 := SR1.since B2
  have SC2 := SC1.since B2
  have hB2 := hB1.trans (B2.mono hB1.size)
  have SD2 := Src.of_owns OO
  clear SJ1 SR1 SC1 hB1 B2 OO
  go_wp2_with fail
  refine (flip_any _ _ n0 cj xs SJ2 hn0).mono ?_
  rintro e w3 ⟨ae, ce, rfl, SS, B3⟩
  have SJ3 := SJ2.since B3
  have SR3 := SR2.since B3
  have SC3 := SC2.since B3
  have SD3 := SD2.since B3
  have hB3 := hB2.trans (B3.mono hB2.size)
  have SE3 := SS
  clear SJ2 SR2 SC2 SD2 hB2 B3 SS
  go_wp2_with fail
  refine (flip_any _ _ n1 cr ys SR3 hn1).mono ?_
  rintro e w4 ⟨af, cf, rfl, SS, B4⟩
  have SJ4 := SJ3.since B4
  have SR4 := SR3.since B4
  have SC4 := SC3.since B4
  have SD4 := SD3.since B4
  have SE4 := SE3.since B4
  have hB4 := hB3.trans (B4.mono hB3.size)
  have SF4 := SS
  clear SJ3 SR3 SC3 SD3 SE3 hB3 B4 SS
  go_wp2_with fail
  refine (clone_any _ _ n0 cj xs SJ4 hn0).mono ?_
  rintro e w5 ⟨ag, cg, rfl, OO, B5⟩
  have SJ5 := SJ4.since B5
  have SR5 := SR4.since B5
  have SC5 := SC4.since B5
  have SD5 := SD4.since B5
  have SE5 := SE4.since B5
  have SF5 := SF4.since B5
  have hB5 := hB4.trans (B5.mono hB4.size)
  have SG5 := Src.of_owns OO
  clear SJ4 SR4 SC4 SD4 SE4 SF4 hB4 B5 OO
  go_wp2_with fail
  refine (clone_any _ _ n1 cr ys SR5 hn1).mono ?_
  rintro e w6 ⟨ah, ch, rfl, OO, B6⟩
  have SJ6 := SJ5.since B6
  have SR6 := SR5.since B6
  have SC6 := SC5.since B6
  have SD6 := SD5.since B6
  have SE6 := SE5.since B6
  have SF6 := SF5.since B6
  have SG6 := SG5.since B6
  have hB6 := hB5.trans (B6.mono hB5.size)
  have SH6 := Src.of_owns OO
  clear SJ5 SR5 SC5 SD5 SE5 SF5 SG5 hB5 B6 OO
  go_wp2_with fail
  refine (insert_to _ _ n1 cr k ys s SR6 (by omega) hk).mono ?_
  rintro e w7 ⟨ai, ci, rfl, SS, B7⟩
  have SJ7 := SJ6.since B7
  have SR7 := SR6.since B7
  have SC7 := SC6.since B7
  have SD7 := SD6.since B7
  have SE7 := SE6.since B7
  have SF7 := SF6.since B7
  have SG7 := SG6.since B7
  have SH7 := SH6.since B7
  have hB7 := hB6.trans (B7.mono hB6.size)
  have SI7 := SS
  clear SJ6 SR6 SC6 SD6 SE6 SF6 SG6 SH6 hB6 B7 SS
  go_wp2_with fail
  refine (change_to true _ _ _ _ _ _ _ _ _ _ _ _ _ xs ys xs ys SJ7 SR7 SJ7 SR7 hn0 hn1 hn0 hn1 (self_eq _ _)).mono ?_
  rintro e w8 ⟨rfl, B8⟩
  have SJ8 := SJ7.since B8
  have SR8 := SR7.since B8
  have SC8 := SC7.since B8
  have SD8 := SD7.since B8
  have SE8 := SE7.since B8
  have SF8 := SF7.since B8
  have SG8 := SG7.since B8
  have SH8 := SH7.since B8
  have SI8 := SI7.since B8
  have hB8 := hB7.trans (B8.mono hB7.size)
  clear SJ7 SR7 SC7 SD7 SE7 SF7 SG7 SH7 SI7 hB7 B8
  go_wp2_with fail
  refine (change_to true _ _ _ _ _ _ _ _ _ _ _ _ _ xs ys xs ys SJ8 SR8 SC8 SD8 hn0 hn1 hn0 hn1 (self_eq _ _)).mono ?_
  rintro e w9 ⟨rfl, B9⟩
  have SJ9 := SJ8.since B9
  have SR9 := SR8.since B9
  have SC9 := SC8.since B9
  have SD9 := SD8.since B9
  have SE9 := SE8.since B9
  have SF9 := SF8.since B9
  have SG9 := SG8.since B9
  have SH9 := SH8.since B9
  have SI9 := SI8.since B9
  have hB9 := hB8.trans (B9.mono hB8.size)
  clear SJ8 SR8 SC8 SD8 SE8 SF8 SG8 SH8 SI8 hB8 B9
  go_wp2_with fail
  refine (change_to true _ _ _ _ _ _ _ _ _ _ _ _ _ xs ys xs ys SE9 SF9 SJ9 SR9 hn0 hn1 hn0 hn1 (self_eq _ _)).mono ?_
  rintro e w10 ⟨rfl, B10⟩
  have SJ10 := SJ9.since B10
  have SR10 := SR9.since B10
  have SC10 := SC9.since B10
  have SD10 := SD9.since B10
  have SE10 := SE9.since B10
  have SF10 := SF9.since B10
  have SG10 := SG9.since B10
  have SH10 := SH9.since B10
  have SI10 := SI9.since B10
  have hB10 := hB9.trans (B10.mono hB9.size)
  clear SJ9 SR9 SC9 SD9 SE9 SF9 SG9 SH9 SI9 hB9 B10
  go_wp2_with fail
  refine (change_to true _ _ _ _ _ _ _ _ _ _ _ _ _ xs (ins ys k s) xs (ins ys k s) SG10 SI10 SG10 SI10 hn0 (by omega) hn0 (by omega) (self_eq _ _)).mono ?_
  rintro e w11 ⟨rfl, B11⟩
  have SJ11 := SJ10.since B11
  have SR11 := SR10.since B11
  have SC11 := SC10.since B11
  have SD11 := SD10.since B11
  have SE11 := SE10.since B11
  have SF11 := SF10.since B11
  have SG11 := SG10.since B11
  have SH11 := SH10.since B11
  have SI11 := SI10.since B11
  have hB11 := hB10.trans (B11.mono hB10.size)
  clear SJ10 SR10 SC10 SD10 SE10 SF10 SG10 SH10 SI10 hB10 B11
  go_wp2_with fail
  refine (change_to false _ _ _ _ _ _ _ _ _ _ _ _ _ xs ys xs (ins ys k s) SJ11 SR11 SG11 SI11 hn0 hn1 hn0 (by omega) (ins_right _ _ _ _ HKL.out)).mono ?_
  rintro e w12 ⟨rfl, B12⟩
  have SJ12 := SJ11.since B12
  have SR12 := SR11.since B12
  have SC12 := SC11.since B12
  have SD12 := SD11.since B12
  have SE12 := SE11.since B12
  have SF12 := SF11.since B12
  have SG12 := SG11.since B12
  have SH12 := SH11.since B12
  have SI12 := SI11.since B12
  have hB12 := hB11.trans (B12.mono hB11.size)
  clear SJ11 SR11 SC11 SD11 SE11 SF11 SG11 SH11 SI11 hB11 B12
  go_wp2_with fail
  refine (change_to false _ _ _ _ _ _ _ _ _ _ _ _ _ xs (ins ys k s) xs ys SG12 SI12 SJ12 SR12 hn0 (by omega) hn0 hn1 (ins_right' _ _ _ _ HKL.out)).mono ?_
  rintro e w13 ⟨rfl, B13⟩
  have SJ13 := SJ12.since B13
  have SR13 := SR12.since B13
  have SC13 := SC12.since B13
  have SD13 := SD12.since B13
  have SE13 := SE12.since B13
  have SF13 := SF12.since B13
  have SG13 := SG12.since B13
  have SH13 := SH12.since B13
  have SI13 := SI12.since B13
  have hB13 := hB12.trans (B13.mono hB12.size)
  clear SJ12 SR12 SC12 SD12 SE12 SF12 SG12 SH12 SI12 hB12 B13
  go_wp2_with fail
  go_ret
  exact ⟨rfl, hB13⟩
end Go.Proofs.Qxb6616823aMods.lists

