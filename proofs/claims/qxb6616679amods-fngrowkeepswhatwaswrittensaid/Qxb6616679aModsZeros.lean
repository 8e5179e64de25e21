/-
  A LAW OF NO PROGRAM: 'append(xs, make([]int, m)...)', xs A ROW THAT THE CALL OWNS (nil too), m at least one: the translation hands the builtin THE NUMBER m. After the library's 'run_append_own' (a slice's elements) and 'Lib.run_append_nil_zeros' (a nil slice).
-/
import Derived.Lib.AppendZeros
import Derived.Laws.OwnMore
namespace Go.Proofs.Qxb6616679aMods
open Go

/-- m zero elements of one cell. -/
theorem zeros_one (m : Nat) : Builtin.zeroCells (Value.int .i64 0).cells m = (List.replicate m (Value.int .i64 0)).toArray := by
  apply Array.ext
  · simp [Builtin.zeroCells, Value.cells]
  · intro j h1 h2
    simp [Builtin.zeroCells, Value.cells, Nat.mod_one]

/-- THE RUN, nil or not, with room or not. -/
theorem run_append_zeros_own {P : Program} (w : World) (base : Nat) (t tn ty e : TypeId) (i : TypeInfo) (kn : IntKind) (ht : P.underlying t = some (.slice e)) (htn : P.underlying tn = some (.int kn)) (hi : P.info? e = some i)
    (hz : i.zero = some (.int .i64 0)) (hsize : i.size = 1) (hby : i.bytes = 8)
    (v : Value) (n : Nat) (xs : List Value) (hown : w.ownsRow base e 1 v n xs) (m : Nat) (hm : 0 < m) (hbytes : (n + m) * 8 ≤ 140737488355328) (hbase : base ≤ w.heap.size) :
    ∃ g cap w', (Builtin.append_ #[t, tn] ty #[v, .int .i64 m]).run P w = .ok (.slice (some ⟨g, 0, none⟩) (n + m) cap) w' ∧
      w'.ownsRow base e 1 (.slice (some ⟨g, 0, none⟩) (n + m) cap) (n + m) (xs ++ List.replicate m (.int .i64 0)) ∧ w.grownBy w' v.ownBlock := by
  have hm0 : m ≠ 0 := by omega
  have hw : IntKind.i64.wrap (m : Int) = m := by rw [IntKind.wrap_i64]; omega
  have hneg : ¬ ((m : Int) < 0) := by omega
  have h48i : ¬ (281474976710656 < (m : Int) * (8 : Int)) := by omega
  have hlen : (xs ++ List.replicate m (Value.int .i64 0)).length = (n + m) * 1 := by rw [List.length_append, hown.1]; simp
  have h63 : n + m ≤ maxLen := by unfold maxLen; omega
  -- where a new row is laid
  have grown : ∀ (old : Nat), old < n + m → ∀ (row : Option Nat),
      (w.drew.alloc (.cells (xs.toArray ++ Builtin.zeroCells (Value.int .i64 0).cells m ++ Builtin.zeroCells (Value.int .i64 0).cells (grownCap w (n + m) old e - (n + m))) e)).ownsRow base e 1
        (.slice (some ⟨w.heap.size, 0, none⟩) (n + m) (grownCap w (n + m) old e)) (n + m) (xs ++ List.replicate m (.int .i64 0)) ∧
      w.grownBy (w.drew.alloc (.cells (xs.toArray ++ Builtin.zeroCells (Value.int .i64 0).cells m ++ Builtin.zeroCells (Value.int .i64 0).cells (grownCap w (n + m) old e - (n + m))) e)) row := by
    intro old ho row
    have hge := grownCap_ge w (n + m) old e
    have hcm : grownCap w (n + m) old e ≤ maxLen := grownCap_le_maxLen w (n + m) old e h63
    have hxl := hown.1
    refine ⟨⟨hlen, .inr ⟨w.heap.size, _, _, rfl, hbase, heap_alloc_new w.drew _, hge, hcm, ?_, ?_⟩⟩, ⟨rfl, rfl, rfl, by simp, fun k hk _ => heap_alloc_old w.drew _ k hk⟩⟩
    · rw [zeros_one, zeros_one]
      simp [hxl]
      omega
    · rw [zeros_one, ← hlen]
      simp only [Array.toList_append]
      exact List.take_left
  rcases hown.2 with ⟨rfl, rfl⟩ | ⟨g, cap, cur, rfl, hbg, hg, hnc, hcm, hcs, htake⟩
  · have hx : xs = [] := List.eq_nil_of_length_eq_zero (by simpa using hown.1)
    subst hx
    have hr := Lib.run_append_nil_zeros (P := P) w t tn ty e i (.int .i64 0) .i64 kn ht htn hi hz m hm (by omega) (by omega) (by rw [hby]; omega)
    have hgr := grown 0 (by omega) (Value.ownBlock (.slice none 0 0))
    simp only [Nat.zero_add, List.nil_append, Array.empty_append] at hgr ⊢
    exact ⟨_, _, _, hr, hgr.1, hgr.2⟩
  · by_cases hroom : n + m ≤ cap
    · have hst := run_storeCells_at P g n e (List.replicate m (Value.int .i64 0)) 0 cur w hg (by simp [hcs]; omega) (by intro u hu; rw [List.eq_of_mem_replicate hu]; rfl)
      simp only [Nat.add_zero] at hst
      refine ⟨g, cap, w.setRow g (cur.toList.take n ++ List.replicate m (Value.int .i64 0) ++ cur.toList.drop (n + (List.replicate m (Value.int .i64 0)).length)).toArray, ?_, ?_, ?_⟩
      · simp [Builtin.append_, run_underlying ht, run_underlying htn, sizeOf, typeInfo, zeroValue, hi, hz, hsize, hby, asInt, asIntOf, hw, hm0, hneg, h48i, hroom, Addr.add_lit, zeros_one, hst]
      · refine ⟨hlen, .inr ⟨g, cap, _, rfl, hbg, setRow_heap w g cur _ e _ hg, hroom, hcm, ?_, ?_⟩⟩
        · simp only [List.size_toArray, List.length_append, List.length_take, List.length_drop, Array.length_toList, List.length_replicate]
          omega
        · simp only [Nat.mul_one] at htake
          rw [htake, ← hlen]
          exact List.take_left
      · exact ⟨rfl, rfl, rfl, by simp, fun k _ hk => setRow_other w g k _ (fun e => hk (by simp [Value.ownBlock, e]))⟩
    · have holds : ∀ j u, xs[j]? = some u → w.cell? ((⟨g, 0, none⟩ : Addr).add j) = some u := hown.cells (g := g) rfl
      have hfo := run_firstCells_some (P := P) w.drew 1 n ⟨g, 0, none⟩ n cap xs hown.1 (by simpa using holds)
      have hn : ¬ (n + m ≤ cap) := hroom
      have h63' : ¬ (9223372036854775807 < ((n : Int) + (m : Int))) := by omega
      have hfit := growslice_fits (need := n + m) (old := cap) (bytes := 8) (by omega) hbytes
      have h48' : ¬ (281474976710656 < Builtin.nextslicecap (n + m) cap * 8) := by omega
      have hgr := grown cap (by omega) (Value.ownBlock (.slice (some ⟨g, 0, none⟩) n cap))
      refine ⟨_, _, _, ?_, hgr.1, hgr.2⟩
      simp [Builtin.append_, run_underlying ht, run_underlying htn, sizeOf, typeInfo, zeroValue, hi, hz, hsize, hby, asInt, asIntOf, hw, hm0, hneg, h48i, hn, h63', h48', Question.forced, hfo, newRow, grownCap]
end Go.Proofs.Qxb6616679aMods
