/-
  THE CONTRACTS OF THE TWO zzBytes: whatever they are handed they return a bool, and where it is true both lists have at most 1048576 elements.
-/
import Derived.Test.Qxb6616823aModsLists
namespace Go.Proofs.Qxb6616823aMods.lists
open Go.ChangeShapes Go.WideShapes Go.ChangeAt Go.RowKit Go.Deep

set_option maxHeartbeats 4000000 in
/-- zzBytes_FnChangeEqualOneReplaced: if it answers true the two lists are short. -/
theorem bytes11 (w : World) (a0 a1 : Option Addr) (n0 c0 n1 c1 : Nat) (xs ys : List ByteArray) (s : ByteArray) (i : Int) (b : Bool) (hx : Src w a0 n0 xs) (hy : Src w a1 n1 ys) (hn0 : n0 ≤ maxLen) (hn1 : n1 ≤ maxLen) (hs : s.size ≤ maxLen)
    (hzx : ∀ j, (xs.getD j ByteArray.empty).size ≤ maxLen) (hzy : ∀ j, (ys.getD j ByteArray.empty).size ≤ maxLen) :
    Calls Trym.prog 11 #[.slice a0 n0 c0, .slice a1 n1 c1, .bool b, .int .i64 i, .string s] w fun e w' => (e = .returned (.bool false) ∨ (e = .returned (.bool true) ∧ n0 ≤ 1048576 ∧ n1 ≤ 1048576 ∧ s.size ≤ 1048576)) ∧ w = w' := by
  have HX : Hid (Src w a0 n0 xs) := hx
  have HY : Hid (Src w a1 n1 ys) := hy
  have HZX : Hid (∀ j, (xs.getD j ByteArray.empty).size ≤ maxLen) := hzx
  have HZY : Hid (∀ j, (ys.getD j ByteArray.empty).size ≤ maxLen) := hzy
  clear hx hy hzx hzy
  unfold maxLen at hn0 hn1 hs
  by_cases t0 : 1048576 < n0
  · go_enter Trym.func11, Trym.ntmps11
    go_wp2
    go_ret
    exact ⟨.inl rfl, rfl⟩
  go_enter Trym.func11, Trym.ntmps11
  go_wp2
  go_loop [11, 12] (fun t i => ∃ (k : Nat) (z : Int), k ≤ n0 ∧ i = .int .i64 k ∧ t = .int .i64 z ∧ 0 ≤ z ∧ z ≤ 1048576) (fun _ i => n0 - (intOf i).toNat)
  case atStart => exact ⟨0, n0, Nat.zero_le _, rfl, by go_num, by omega, by omega⟩
  case round =>
    obtain ⟨k, z, hk, rfl, rfl, hz0, hz1⟩ := hrel
    by_cases hlt : k < n0
    · obtain ⟨b, o, e1, _, g1⟩ := HX.out.at hlt
      subst e1
      have hsz := HZX.out k
      generalize xs.getD k ByteArray.empty = x at g1 hsz
      unfold maxLen at hsz
      by_cases hb1 : 1048576 < (x.size : Int)
      · go_wp2
        go_ret
        exact ⟨.inl rfl, rfl⟩
      · by_cases hb2 : 1048576 < z + (x.size : Int)
        · go_wp2
          go_ret
          exact ⟨.inl rfl, rfl⟩
        · go_wp2
          go_round
          case rel => exact ⟨k + 1, z + x.size, by omega, by go_num, by go_num, by omega, by omega⟩
          case measure => simp [intOf]; omega
    · by_cases t1 : 1048576 < n1
      · go_wp2
        go_ret
        exact ⟨.inl rfl, rfl⟩
      by_cases t2 : 1048576 < z + (n1 : Int)
      · go_wp2
        go_ret
        exact ⟨.inl rfl, rfl⟩
      go_wp2
      go_loop [11, 13] (fun t i => ∃ (k : Nat) (z : Int), k ≤ n1 ∧ i = .int .i64 k ∧ t = .int .i64 z ∧ 0 ≤ z ∧ z ≤ 1048576) (fun _ i => n1 - (intOf i).toNat)
      case atStart => exact ⟨0, z + n1, Nat.zero_le _, rfl, rfl, by omega, by omega⟩
      case round =>
        obtain ⟨k, z, hk, rfl, rfl, hz0, hz1⟩ := hrel
        by_cases hlt : k < n1
        · obtain ⟨b, o, e1, _, g1⟩ := HY.out.at hlt
          subst e1
          have hsz := HZY.out k
          generalize ys.getD k ByteArray.empty = x at g1 hsz
          unfold maxLen at hsz
          by_cases hb1 : 1048576 < (x.size : Int)
          · go_wp2
            go_ret
            exact ⟨.inl rfl, rfl⟩
          · by_cases hb2 : 1048576 < z + (x.size : Int)
            · go_wp2
              go_ret
              exact ⟨.inl rfl, rfl⟩
            · go_wp2
              go_round
              case rel => exact ⟨k + 1, z + x.size, by omega, by go_num, by go_num, by omega, by omega⟩
              case measure => simp [intOf]; omega
        · by_cases t3 : 1048576 < (s.size : Int)
          · go_wp2
            go_ret
            exact ⟨.inl rfl, rfl⟩
          by_cases t4 : 1048576 < z + (s.size : Int)
          · go_wp2
            go_ret
            exact ⟨.inl rfl, rfl⟩
          go_wp2
          go_ret
          exact ⟨.inr ⟨rfl, by omega, by omega, by omega⟩, rfl⟩

set_option maxHeartbeats 4000000 in
/-- zzBytes_FnChangeEqualSelfAndOneInserted: if it answers true the two lists are short. -/
theorem bytes5 (w : World) (a0 a1 : Option Addr) (n0 c0 n1 c1 : Nat) (xs ys : List ByteArray) (s : ByteArray) (i : Int) (b : Bool) (hx : Src w a0 n0 xs) (hy : Src w a1 n1 ys) (hn0 : n0 ≤ maxLen) (hn1 : n1 ≤ maxLen) (hs : s.size ≤ maxLen)
    (hzx : ∀ j, (xs.getD j ByteArray.empty).size ≤ maxLen) (hzy : ∀ j, (ys.getD j ByteArray.empty).size ≤ maxLen) :
    Calls Trym.prog 5 #[.slice a0 n0 c0, .slice a1 n1 c1, .string s, .int .i64 i, .bool b] w fun e w' => (e = .returned (.bool false) ∨ (e = .returned (.bool true) ∧ n0 ≤ 1048576 ∧ n1 ≤ 1048576 ∧ s.size ≤ 1048576)) ∧ w = w' := by
  have HX : Hid (Src w a0 n0 xs) := hx
  have HY : Hid (Src w a1 n1 ys) := hy
  have HZX : Hid (∀ j, (xs.getD j ByteArray.empty).size ≤ maxLen) := hzx
  have HZY : Hid (∀ j, (ys.getD j ByteArray.empty).size ≤ maxLen) := hzy
  clear hx hy hzx hzy
  unfold maxLen at hn0 hn1 hs
  by_cases t0 : 1048576 < n0
  · go_enter Trym.func5, Trym.ntmps5
    go_wp2
    go_ret
    exact ⟨.inl rfl, rfl⟩
  go_enter Trym.func5, Trym.ntmps5
  go_wp2
  go_loop [11, 12] (fun t i => ∃ (k : Nat) (z : Int), k ≤ n0 ∧ i = .int .i64 k ∧ t = .int .i64 z ∧ 0 ≤ z ∧ z ≤ 1048576) (fun _ i => n0 - (intOf i).toNat)
  case atStart => exact ⟨0, n0, Nat.zero_le _, rfl, by go_num, by omega, by omega⟩
  case round =>
    obtain ⟨k, z, hk, rfl, rfl, hz0, hz1⟩ := hrel
    by_cases hlt : k < n0
    · obtain ⟨b, o, e1, _, g1⟩ := HX.out.at hlt
      subst e1
      have hsz := HZX.out k
      generalize xs.getD k ByteArray.empty = x at g1 hsz
      unfold maxLen at hsz
      by_cases hb1 : 1048576 < (x.size : Int)
      · go_wp2
        go_ret
        exact ⟨.inl rfl, rfl⟩
      · by_cases hb2 : 1048576 < z + (x.size : Int)
        · go_wp2
          go_ret
          exact ⟨.inl rfl, rfl⟩
        · go_wp2
          go_round
          case rel => exact ⟨k + 1, z + x.size, by omega, by go_num, by go_num, by omega, by omega⟩
          case measure => simp [intOf]; omega
    · by_cases t1 : 1048576 < n1
      · go_wp2
        go_ret
        exact ⟨.inl rfl, rfl⟩
      by_cases t2 : 1048576 < z + (n1 : Int)
      · go_wp2
        go_ret
        exact ⟨.inl rfl, rfl⟩
      go_wp2
      go_loop [11, 13] (fun t i => ∃ (k : Nat) (z : Int), k ≤ n1 ∧ i = .int .i64 k ∧ t = .int .i64 z ∧ 0 ≤ z ∧ z ≤ 1048576) (fun _ i => n1 - (intOf i).toNat)
      case atStart => exact ⟨0, z + n1, Nat.zero_le _, rfl, rfl, by omega, by omega⟩
      case round =>
        obtain ⟨k, z, hk, rfl, rfl, hz0, hz1⟩ := hrel
        by_cases hlt : k < n1
        · obtain ⟨b, o, e1, _, g1⟩ := HY.out.at hlt
          subst e1
          have hsz := HZY.out k
          generalize ys.getD k ByteArray.empty = x at g1 hsz
          unfold maxLen at hsz
          by_cases hb1 : 1048576 < (x.size : Int)
          · go_wp2
            go_ret
            exact ⟨.inl rfl, rfl⟩
          · by_cases hb2 : 1048576 < z + (x.size : Int)
            · go_wp2
              go_ret
              exact ⟨.inl rfl, rfl⟩
            · go_wp2
              go_round
              case rel => exact ⟨k + 1, z + x.size, by omega, by go_num, by go_num, by omega, by omega⟩
              case measure => simp [intOf]; omega
        · by_cases t3 : 1048576 < (s.size : Int)
          · go_wp2
            go_ret
            exact ⟨.inl rfl, rfl⟩
          by_cases t4 : 1048576 < z + (s.size : Int)
          · go_wp2
            go_ret
            exact ⟨.inl rfl, rfl⟩
          go_wp2
          go_ret
          exact ⟨.inr ⟨rfl, by omega, by omega, by omega⟩, rfl⟩

end Go.Proofs.Qxb6616823aMods.lists
