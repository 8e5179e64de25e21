/-
  THE WALKS OF FnRetriesBudgetIsMaxRetries, one theorem a way through her tests (nine). Both last statements draw their order and hold calls that box their receiver: walked by 'go_region_held3', the world under a letter first.
-/
import Derived.Test.Qxb6616439aModsRetries
namespace Go.Proofs.Qxb6616439aMods.fnRetriesBudgetIsMaxRetries
open Go.ChangeShapes Go.WideShapes Go.ChangeAt Go.RowKit
attribute [local go_sem] run_store_float

theorem retries_yes (f : Nat) (a1 a2 a3 m a5 t : Int) (w : World) (h : t < m) :
    Calls Trym.prog 12 #[.agg (pol f a1 a2 a3 m a5), .int .i64 t, .pointer none] w fun e w' =>
      e = .returned (.bool true) ∧ w' = w.alloc (.cells (pol f a1 a2 a3 m a5) 31) :=
  (retries_nil f a1 a2 a3 m a5 t w).mono fun e w' ⟨he, hw⟩ => ⟨by rw [he, decide_eq_true h], hw⟩
theorem retries_no (f : Nat) (a1 a2 a3 m a5 t : Int) (w : World) (h : ¬ t < m) :
    Calls Trym.prog 12 #[.agg (pol f a1 a2 a3 m a5), .int .i64 t, .pointer none] w fun e w' =>
      e = .returned (.bool false) ∧ w' = w.alloc (.cells (pol f a1 a2 a3 m a5) 31) :=
  (retries_nil f a1 a2 a3 m a5 t w).mono fun e w' ⟨he, hw⟩ => ⟨by rw [he, decide_eq_false h], hw⟩

theorem held_alloc {w : World} {a : Addr} {v : Value} {o : Obj} (h : w.cell? a = some v) : (w.alloc o).cell? a = some v := by rw [World.cell?_alloc_some w a o (by simp [h])]; exact h
theorem held_drew {w : World} {a : Addr} {v : Value} (h : w.cell? a = some v) : w.drew.cell? a = some v := h
/-- Where a Politeness lies: its six cells. -/
abbrev Lies (wc : World) (b : Nat) (f : Nat) (a1 a2 a3 m a5 : Int) : Prop :=
  wc.cell? ⟨b, 0, none⟩ = some (.float .f64 f) ∧ wc.cell? ⟨b, 1, none⟩ = some (.int .i64 a1) ∧ wc.cell? ⟨b, 2, none⟩ = some (.int .i64 a2) ∧ wc.cell? ⟨b, 3, none⟩ = some (.int .i64 a3) ∧
  wc.cell? ⟨b, 4, none⟩ = some (.int .i64 m) ∧ wc.cell? ⟨b, 5, none⟩ = some (.int .i64 a5)
/-- The world behind what has been walked, as a letter. -/
theorem wp_world {P : Program} {c : Code} {Q : Exit → Act → World → Prop} {a : Act} {W : World} (R : World → Prop) (h : R W) (k : ∀ W', R W' → Code.wp P c Q a W') : Code.wp P c Q a W := k W h

set_option maxHeartbeats 1000000 in
theorem way_neg_max (f : Nat) (a1 a2 a3 m a5 t s : Int) (ht : t ≤ 9223372036854775807) (ht' : -9223372036854775808 ≤ t) (hm : m ≤ 9223372036854775807) (hm' : -9223372036854775808 ≤ m) (w : World) (h1 : m < 0) (h2 : 9223372036854775806 < t) :
    Calls Trym.prog 5 #[.float .f64 f, .int .i64 a1, .int .i64 a2, .int .i64 a3, .int .i64 m, .int .i64 a5, .int .i64 t, .int .i64 s] w fun e w' =>
      e = .returned (.bool true) ∧ Below w.heap.size w w' := by
  go_enter Trym.func5, Trym.ntmps5
  go_wp2_with (first | (go_at_call 11; refine (new_pol _ _ _ _ _ _ _).mono ?_; rintro e w' ⟨rfl, rfl⟩) | (go_at_call 12; refine (retries_yes _ _ _ _ _ _ _ _ (by omega)).mono ?_; rintro e w' ⟨rfl, rfl⟩) | (go_at_call 12; refine (retries_no _ _ _ _ _ _ _ _ (by omega)).mono ?_; rintro e w' ⟨rfl, rfl⟩))
  refine wp_world (fun wc => w.heap.size + 1 < wc.heap.size ∧ w.heap.size + 1 + 1 + 1 + 1 < wc.heap.size ∧ Below w.heap.size w wc ∧ Lies wc (w.heap.size + 1) f a1 a2 a3 m a5 ∧ Lies wc (w.heap.size + 1 + 1 + 1 + 1) 0 0 0 0 m 0) ?_ ?_
  · refine ⟨by simp, by simp, ?_, ⟨?_, ?_, ?_, ?_, ?_, ?_⟩, ⟨?_, ?_, ?_, ?_, ?_, ?_⟩⟩
    · repeat (first | exact Below.refl _ _ | (refine Below.alloc ?_ (by simp <;> omega) _))
    all_goals go_simp
  rintro wc ⟨hs1, hs2, hbel, ⟨c0, c1, c2, c3, c4, c5⟩, d0, d1, d2, d3, d4, d5⟩
  go_region_held3 (fun w' => w'.cell? ⟨w.heap.size + 1, 0, none⟩ = some (.float .f64 f) ∧ w'.cell? ⟨w.heap.size + 1, 1, none⟩ = some (.int .i64 a1) ∧ w'.cell? ⟨w.heap.size + 1, 2, none⟩ = some (.int .i64 a2) ∧ w'.cell? ⟨w.heap.size + 1, 3, none⟩ = some (.int .i64 a3) ∧ w'.cell? ⟨w.heap.size + 1, 4, none⟩ = some (.int .i64 m) ∧ w'.cell? ⟨w.heap.size + 1, 5, none⟩ = some (.int .i64 a5) ∧ w'.cell? ⟨w.heap.size + 1 + 1 + 1 + 1, 0, none⟩ = some (.float .f64 0) ∧ w'.cell? ⟨w.heap.size + 1 + 1 + 1 + 1, 1, none⟩ = some (.int .i64 0) ∧ w'.cell? ⟨w.heap.size + 1 + 1 + 1 + 1, 2, none⟩ = some (.int .i64 0) ∧ w'.cell? ⟨w.heap.size + 1 + 1 + 1 + 1, 3, none⟩ = some (.int .i64 0) ∧ w'.cell? ⟨w.heap.size + 1 + 1 + 1 + 1, 4, none⟩ = some (.int .i64 m) ∧ w'.cell? ⟨w.heap.size + 1 + 1 + 1 + 1, 5, none⟩ = some (.int .i64 0)) ((repeat' apply And.intro) <;> (repeat (first | with_reducible assumption | apply held_drew | apply held_alloc)))
    (first | (go_at_call 12; refine (retries_nil _ _ _ _ _ _ _ _).mono ?_; rintro e w' ⟨rfl, rfl⟩))
  go_wp2_with fail
  refine wp_world (fun wc => w.heap.size + 1 < wc.heap.size ∧ w.heap.size + 1 + 1 + 1 + 1 < wc.heap.size ∧ Below w.heap.size w wc ∧ Lies wc (w.heap.size + 1) f a1 a2 a3 m a5 ∧ Lies wc (w.heap.size + 1 + 1 + 1 + 1) 0 0 0 0 m 0) ?_ ?_
  · refine ⟨by simp; omega, by simp; omega, ?_, ⟨?_, ?_, ?_, ?_, ?_, ?_⟩, ⟨?_, ?_, ?_, ?_, ?_, ?_⟩⟩
    · exact ((hbel.alloc (by omega) _).alloc (by simp; omega) _).drew
    all_goals go_simp
  clear hs1 hs2 hbel c0 c1 c2 c3 c4 c5 d0 d1 d2 d3 d4 d5
  rintro wd ⟨hs1, hs2, hbel, ⟨c0, c1, c2, c3, c4, c5⟩, d0, d1, d2, d3, d4, d5⟩
  go_region_held3 (fun w' => w'.cell? ⟨w.heap.size + 1, 0, none⟩ = some (.float .f64 f) ∧ w'.cell? ⟨w.heap.size + 1, 1, none⟩ = some (.int .i64 a1) ∧ w'.cell? ⟨w.heap.size + 1, 2, none⟩ = some (.int .i64 a2) ∧ w'.cell? ⟨w.heap.size + 1, 3, none⟩ = some (.int .i64 a3) ∧ w'.cell? ⟨w.heap.size + 1, 4, none⟩ = some (.int .i64 m) ∧ w'.cell? ⟨w.heap.size + 1, 5, none⟩ = some (.int .i64 a5) ∧ w'.cell? ⟨w.heap.size + 1 + 1 + 1 + 1, 0, none⟩ = some (.float .f64 0) ∧ w'.cell? ⟨w.heap.size + 1 + 1 + 1 + 1, 1, none⟩ = some (.int .i64 0) ∧ w'.cell? ⟨w.heap.size + 1 + 1 + 1 + 1, 2, none⟩ = some (.int .i64 0) ∧ w'.cell? ⟨w.heap.size + 1 + 1 + 1 + 1, 3, none⟩ = some (.int .i64 0) ∧ w'.cell? ⟨w.heap.size + 1 + 1 + 1 + 1, 4, none⟩ = some (.int .i64 m) ∧ w'.cell? ⟨w.heap.size + 1 + 1 + 1 + 1, 5, none⟩ = some (.int .i64 0)) ((repeat' apply And.intro) <;> (repeat (first | with_reducible assumption | apply held_drew | apply held_alloc)))
    (first | (go_at_call 13; refine (new_ex _ _).mono ?_; rintro e w' ⟨rfl, rfl⟩) | (go_at_call 12; refine (retries_ex _ _ _ _ _ _ _ s _ _ (by simp) (by go_simp)).mono ?_; rintro e w' ⟨rfl, rfl⟩))
  go_wp2
  go_ret
  exact ⟨rfl, ((((hbel.alloc (by omega) _).alloc (by simp; omega) _).alloc (by simp; omega) _).alloc (by simp; omega) _).drew⟩

set_option maxHeartbeats 1000000 in
theorem way_neg_less (f : Nat) (a1 a2 a3 m a5 t s : Int) (ht : t ≤ 9223372036854775807) (ht' : -9223372036854775808 ≤ t) (hm : m ≤ 9223372036854775807) (hm' : -9223372036854775808 ≤ m) (w : World) (h1 : m < 0) (h2 : t < 9223372036854775807) (h3 : t + 1 < m) :
    Calls Trym.prog 5 #[.float .f64 f, .int .i64 a1, .int .i64 a2, .int .i64 a3, .int .i64 m, .int .i64 a5, .int .i64 t, .int .i64 s] w fun e w' =>
      e = .returned (.bool true) ∧ Below w.heap.size w w' := by
  go_enter Trym.func5, Trym.ntmps5
  go_wp2_with (first | (go_at_call 11; refine (new_pol _ _ _ _ _ _ _).mono ?_; rintro e w' ⟨rfl, rfl⟩) | (go_at_call 12; refine (retries_yes _ _ _ _ _ _ _ _ (by omega)).mono ?_; rintro e w' ⟨rfl, rfl⟩) | (go_at_call 12; refine (retries_no _ _ _ _ _ _ _ _ (by omega)).mono ?_; rintro e w' ⟨rfl, rfl⟩))
  refine wp_world (fun wc => w.heap.size + 1 < wc.heap.size ∧ w.heap.size + 1 + 1 + 1 + 1 + 1 + 1 < wc.heap.size ∧ Below w.heap.size w wc ∧ Lies wc (w.heap.size + 1) f a1 a2 a3 m a5 ∧ Lies wc (w.heap.size + 1 + 1 + 1 + 1 + 1 + 1) 0 0 0 0 m 0) ?_ ?_
  · refine ⟨by simp, by simp, ?_, ⟨?_, ?_, ?_, ?_, ?_, ?_⟩, ⟨?_, ?_, ?_, ?_, ?_, ?_⟩⟩
    · repeat (first | exact Below.refl _ _ | (refine Below.alloc ?_ (by simp <;> omega) _))
    all_goals go_simp
  rintro wc ⟨hs1, hs2, hbel, ⟨c0, c1, c2, c3, c4, c5⟩, d0, d1, d2, d3, d4, d5⟩
  go_region_held3 (fun w' => w'.cell? ⟨w.heap.size + 1, 0, none⟩ = some (.float .f64 f) ∧ w'.cell? ⟨w.heap.size + 1, 1, none⟩ = some (.int .i64 a1) ∧ w'.cell? ⟨w.heap.size + 1, 2, none⟩ = some (.int .i64 a2) ∧ w'.cell? ⟨w.heap.size + 1, 3, none⟩ = some (.int .i64 a3) ∧ w'.cell? ⟨w.heap.size + 1, 4, none⟩ = some (.int .i64 m) ∧ w'.cell? ⟨w.heap.size + 1, 5, none⟩ = some (.int .i64 a5) ∧ w'.cell? ⟨w.heap.size + 1 + 1 + 1 + 1 + 1 + 1, 0, none⟩ = some (.float .f64 0) ∧ w'.cell? ⟨w.heap.size + 1 + 1 + 1 + 1 + 1 + 1, 1, none⟩ = some (.int .i64 0) ∧ w'.cell? ⟨w.heap.size + 1 + 1 + 1 + 1 + 1 + 1, 2, none⟩ = some (.int .i64 0) ∧ w'.cell? ⟨w.heap.size + 1 + 1 + 1 + 1 + 1 + 1, 3, none⟩ = some (.int .i64 0) ∧ w'.cell? ⟨w.heap.size + 1 + 1 + 1 + 1 + 1 + 1, 4, none⟩ = some (.int .i64 m) ∧ w'.cell? ⟨w.heap.size + 1 + 1 + 1 + 1 + 1 + 1, 5, none⟩ = some (.int .i64 0)) ((repeat' apply And.intro) <;> (repeat (first | with_reducible assumption | apply held_drew | apply held_alloc)))
    (first | (go_at_call 12; refine (retries_nil _ _ _ _ _ _ _ _).mono ?_; rintro e w' ⟨rfl, rfl⟩))
  go_wp2_with fail
  refine wp_world (fun wc => w.heap.size + 1 < wc.heap.size ∧ w.heap.size + 1 + 1 + 1 + 1 + 1 + 1 < wc.heap.size ∧ Below w.heap.size w wc ∧ Lies wc (w.heap.size + 1) f a1 a2 a3 m a5 ∧ Lies wc (w.heap.size + 1 + 1 + 1 + 1 + 1 + 1) 0 0 0 0 m 0) ?_ ?_
  · refine ⟨by simp; omega, by simp; omega, ?_, ⟨?_, ?_, ?_, ?_, ?_, ?_⟩, ⟨?_, ?_, ?_, ?_, ?_, ?_⟩⟩
    · exact ((hbel.alloc (by omega) _).alloc (by simp; omega) _).drew
    all_goals go_simp
  clear hs1 hs2 hbel c0 c1 c2 c3 c4 c5 d0 d1 d2 d3 d4 d5
  rintro wd ⟨hs1, hs2, hbel, ⟨c0, c1, c2, c3, c4, c5⟩, d0, d1, d2, d3, d4, d5⟩
  go_region_held3 (fun w' => w'.cell? ⟨w.heap.size + 1, 0, none⟩ = some (.float .f64 f) ∧ w'.cell? ⟨w.heap.size + 1, 1, none⟩ = some (.int .i64 a1) ∧ w'.cell? ⟨w.heap.size + 1, 2, none⟩ = some (.int .i64 a2) ∧ w'.cell? ⟨w.heap.size + 1, 3, none⟩ = some (.int .i64 a3) ∧ w'.cell? ⟨w.heap.size + 1, 4, none⟩ = some (.int .i64 m) ∧ w'.cell? ⟨w.heap.size + 1, 5, none⟩ = some (.int .i64 a5) ∧ w'.cell? ⟨w.heap.size + 1 + 1 + 1 + 1 + 1 + 1, 0, none⟩ = some (.float .f64 0) ∧ w'.cell? ⟨w.heap.size + 1 + 1 + 1 + 1 + 1 + 1, 1, none⟩ = some (.int .i64 0) ∧ w'.cell? ⟨w.heap.size + 1 + 1 + 1 + 1 + 1 + 1, 2, none⟩ = some (.int .i64 0) ∧ w'.cell? ⟨w.heap.size + 1 + 1 + 1 + 1 + 1 + 1, 3, none⟩ = some (.int .i64 0) ∧ w'.cell? ⟨w.heap.size + 1 + 1 + 1 + 1 + 1 + 1, 4, none⟩ = some (.int .i64 m) ∧ w'.cell? ⟨w.heap.size + 1 + 1 + 1 + 1 + 1 + 1, 5, none⟩ = some (.int .i64 0)) ((repeat' apply And.intro) <;> (repeat (first | with_reducible assumption | apply held_drew | apply held_alloc)))
    (first | (go_at_call 13; refine (new_ex _ _).mono ?_; rintro e w' ⟨rfl, rfl⟩) | (go_at_call 12; refine (retries_ex _ _ _ _ _ _ _ s _ _ (by simp) (by go_simp)).mono ?_; rintro e w' ⟨rfl, rfl⟩))
  go_wp2
  go_ret
  exact ⟨rfl, ((((hbel.alloc (by omega) _).alloc (by simp; omega) _).alloc (by simp; omega) _).alloc (by simp; omega) _).drew⟩

set_option maxHeartbeats 1000000 in
theorem way_neg_more (f : Nat) (a1 a2 a3 m a5 t s : Int) (ht : t ≤ 9223372036854775807) (ht' : -9223372036854775808 ≤ t) (hm : m ≤ 9223372036854775807) (hm' : -9223372036854775808 ≤ m) (w : World) (h1 : m < 0) (h2 : t < 9223372036854775807) (h3 : m ≤ t + 1) :
    Calls Trym.prog 5 #[.float .f64 f, .int .i64 a1, .int .i64 a2, .int .i64 a3, .int .i64 m, .int .i64 a5, .int .i64 t, .int .i64 s] w fun e w' =>
      e = .returned (.bool true) ∧ Below w.heap.size w w' := by
  go_enter Trym.func5, Trym.ntmps5
  go_wp2_with (first | (go_at_call 11; refine (new_pol _ _ _ _ _ _ _).mono ?_; rintro e w' ⟨rfl, rfl⟩) | (go_at_call 12; refine (retries_yes _ _ _ _ _ _ _ _ (by omega)).mono ?_; rintro e w' ⟨rfl, rfl⟩) | (go_at_call 12; refine (retries_no _ _ _ _ _ _ _ _ (by omega)).mono ?_; rintro e w' ⟨rfl, rfl⟩))
  refine wp_world (fun wc => w.heap.size + 1 < wc.heap.size ∧ w.heap.size + 1 + 1 + 1 + 1 + 1 < wc.heap.size ∧ Below w.heap.size w wc ∧ Lies wc (w.heap.size + 1) f a1 a2 a3 m a5 ∧ Lies wc (w.heap.size + 1 + 1 + 1 + 1 + 1) 0 0 0 0 m 0) ?_ ?_
  · refine ⟨by simp, by simp, ?_, ⟨?_, ?_, ?_, ?_, ?_, ?_⟩, ⟨?_, ?_, ?_, ?_, ?_, ?_⟩⟩
    · repeat (first | exact Below.refl _ _ | (refine Below.alloc ?_ (by simp <;> omega) _))
    all_goals go_simp
  rintro wc ⟨hs1, hs2, hbel, ⟨c0, c1, c2, c3, c4, c5⟩, d0, d1, d2, d3, d4, d5⟩
  go_region_held3 (fun w' => w'.cell? ⟨w.heap.size + 1, 0, none⟩ = some (.float .f64 f) ∧ w'.cell? ⟨w.heap.size + 1, 1, none⟩ = some (.int .i64 a1) ∧ w'.cell? ⟨w.heap.size + 1, 2, none⟩ = some (.int .i64 a2) ∧ w'.cell? ⟨w.heap.size + 1, 3, none⟩ = some (.int .i64 a3) ∧ w'.cell? ⟨w.heap.size + 1, 4, none⟩ = some (.int .i64 m) ∧ w'.cell? ⟨w.heap.size + 1, 5, none⟩ = some (.int .i64 a5) ∧ w'.cell? ⟨w.heap.size + 1 + 1 + 1 + 1 + 1, 0, none⟩ = some (.float .f64 0) ∧ w'.cell? ⟨w.heap.size + 1 + 1 + 1 + 1 + 1, 1, none⟩ = some (.int .i64 0) ∧ w'.cell? ⟨w.heap.size + 1 + 1 + 1 + 1 + 1, 2, none⟩ = some (.int .i64 0) ∧ w'.cell? ⟨w.heap.size + 1 + 1 + 1 + 1 + 1, 3, none⟩ = some (.int .i64 0) ∧ w'.cell? ⟨w.heap.size + 1 + 1 + 1 + 1 + 1, 4, none⟩ = some (.int .i64 m) ∧ w'.cell? ⟨w.heap.size + 1 + 1 + 1 + 1 + 1, 5, none⟩ = some (.int .i64 0)) ((repeat' apply And.intro) <;> (repeat (first | with_reducible assumption | apply held_drew | apply held_alloc)))
    (first | (go_at_call 12; refine (retries_nil _ _ _ _ _ _ _ _).mono ?_; rintro e w' ⟨rfl, rfl⟩))
  go_wp2_with fail
  refine wp_world (fun wc => w.heap.size + 1 < wc.heap.size ∧ w.heap.size + 1 + 1 + 1 + 1 + 1 < wc.heap.size ∧ Below w.heap.size w wc ∧ Lies wc (w.heap.size + 1) f a1 a2 a3 m a5 ∧ Lies wc (w.heap.size + 1 + 1 + 1 + 1 + 1) 0 0 0 0 m 0) ?_ ?_
  · refine ⟨by simp; omega, by simp; omega, ?_, ⟨?_, ?_, ?_, ?_, ?_, ?_⟩, ⟨?_, ?_, ?_, ?_, ?_, ?_⟩⟩
    · exact ((hbel.alloc (by omega) _).alloc (by simp; omega) _).drew
    all_goals go_simp
  clear hs1 hs2 hbel c0 c1 c2 c3 c4 c5 d0 d1 d2 d3 d4 d5
  rintro wd ⟨hs1, hs2, hbel, ⟨c0, c1, c2, c3, c4, c5⟩, d0, d1, d2, d3, d4, d5⟩
  go_region_held3 (fun w' => w'.cell? ⟨w.heap.size + 1, 0, none⟩ = some (.float .f64 f) ∧ w'.cell? ⟨w.heap.size + 1, 1, none⟩ = some (.int .i64 a1) ∧ w'.cell? ⟨w.heap.size + 1, 2, none⟩ = some (.int .i64 a2) ∧ w'.cell? ⟨w.heap.size + 1, 3, none⟩ = some (.int .i64 a3) ∧ w'.cell? ⟨w.heap.size + 1, 4, none⟩ = some (.int .i64 m) ∧ w'.cell? ⟨w.heap.size + 1, 5, none⟩ = some (.int .i64 a5) ∧ w'.cell? ⟨w.heap.size + 1 + 1 + 1 + 1 + 1, 0, none⟩ = some (.float .f64 0) ∧ w'.cell? ⟨w.heap.size + 1 + 1 + 1 + 1 + 1, 1, none⟩ = some (.int .i64 0) ∧ w'.cell? ⟨w.heap.size + 1 + 1 + 1 + 1 + 1, 2, none⟩ = some (.int .i64 0) ∧ w'.cell? ⟨w.heap.size + 1 + 1 + 1 + 1 + 1, 3, none⟩ = some (.int .i64 0) ∧ w'.cell? ⟨w.heap.size + 1 + 1 + 1 + 1 + 1, 4, none⟩ = some (.int .i64 m) ∧ w'.cell? ⟨w.heap.size + 1 + 1 + 1 + 1 + 1, 5, none⟩ = some (.int .i64 0)) ((repeat' apply And.intro) <;> (repeat (first | with_reducible assumption | apply held_drew | apply held_alloc)))
    (first | (go_at_call 13; refine (new_ex _ _).mono ?_; rintro e w' ⟨rfl, rfl⟩) | (go_at_call 12; refine (retries_ex _ _ _ _ _ _ _ s _ _ (by simp) (by go_simp)).mono ?_; rintro e w' ⟨rfl, rfl⟩))
  go_wp2
  go_ret
  exact ⟨rfl, ((((hbel.alloc (by omega) _).alloc (by simp; omega) _).alloc (by simp; omega) _).alloc (by simp; omega) _).drew⟩

set_option maxHeartbeats 1000000 in
theorem way_zero_max (f : Nat) (a1 a2 a3 m a5 t s : Int) (ht : t ≤ 9223372036854775807) (ht' : -9223372036854775808 ≤ t) (hm : m ≤ 9223372036854775807) (hm' : -9223372036854775808 ≤ m) (w : World) (h1 : 0 ≤ m) (h1z : m ≤ 0) (h2 : 9223372036854775806 < t) :
    Calls Trym.prog 5 #[.float .f64 f, .int .i64 a1, .int .i64 a2, .int .i64 a3, .int .i64 m, .int .i64 a5, .int .i64 t, .int .i64 s] w fun e w' =>
      e = .returned (.bool true) ∧ Below w.heap.size w w' := by
  go_enter Trym.func5, Trym.ntmps5
  go_wp2_with (first | (go_at_call 11; refine (new_pol _ _ _ _ _ _ _).mono ?_; rintro e w' ⟨rfl, rfl⟩) | (go_at_call 12; refine (retries_yes _ _ _ _ _ _ _ _ (by omega)).mono ?_; rintro e w' ⟨rfl, rfl⟩) | (go_at_call 12; refine (retries_no _ _ _ _ _ _ _ _ (by omega)).mono ?_; rintro e w' ⟨rfl, rfl⟩))
  refine wp_world (fun wc => w.heap.size + 1 < wc.heap.size ∧ w.heap.size + 1 + 1 + 1 + 1 < wc.heap.size ∧ Below w.heap.size w wc ∧ Lies wc (w.heap.size + 1) f a1 a2 a3 m a5 ∧ Lies wc (w.heap.size + 1 + 1 + 1 + 1) 0 0 0 0 m 0) ?_ ?_
  · refine ⟨by simp, by simp, ?_, ⟨?_, ?_, ?_, ?_, ?_, ?_⟩, ⟨?_, ?_, ?_, ?_, ?_, ?_⟩⟩
    · repeat (first | exact Below.refl _ _ | (refine Below.alloc ?_ (by simp <;> omega) _))
    all_goals go_simp
  rintro wc ⟨hs1, hs2, hbel, ⟨c0, c1, c2, c3, c4, c5⟩, d0, d1, d2, d3, d4, d5⟩
  go_region_held3 (fun w' => w'.cell? ⟨w.heap.size + 1, 0, none⟩ = some (.float .f64 f) ∧ w'.cell? ⟨w.heap.size + 1, 1, none⟩ = some (.int .i64 a1) ∧ w'.cell? ⟨w.heap.size + 1, 2, none⟩ = some (.int .i64 a2) ∧ w'.cell? ⟨w.heap.size + 1, 3, none⟩ = some (.int .i64 a3) ∧ w'.cell? ⟨w.heap.size + 1, 4, none⟩ = some (.int .i64 m) ∧ w'.cell? ⟨w.heap.size + 1, 5, none⟩ = some (.int .i64 a5) ∧ w'.cell? ⟨w.heap.size + 1 + 1 + 1 + 1, 0, none⟩ = some (.float .f64 0) ∧ w'.cell? ⟨w.heap.size + 1 + 1 + 1 + 1, 1, none⟩ = some (.int .i64 0) ∧ w'.cell? ⟨w.heap.size + 1 + 1 + 1 + 1, 2, none⟩ = some (.int .i64 0) ∧ w'.cell? ⟨w.heap.size + 1 + 1 + 1 + 1, 3, none⟩ = some (.int .i64 0) ∧ w'.cell? ⟨w.heap.size + 1 + 1 + 1 + 1, 4, none⟩ = some (.int .i64 m) ∧ w'.cell? ⟨w.heap.size + 1 + 1 + 1 + 1, 5, none⟩ = some (.int .i64 0)) ((repeat' apply And.intro) <;> (repeat (first | with_reducible assumption | apply held_drew | apply held_alloc)))
    (first | (go_at_call 12; refine (retries_nil _ _ _ _ _ _ _ _).mono ?_; rintro e w' ⟨rfl, rfl⟩))
  go_wp2_with fail
  refine wp_world (fun wc => w.heap.size + 1 < wc.heap.size ∧ w.heap.size + 1 + 1 + 1 + 1 < wc.heap.size ∧ Below w.heap.size w wc ∧ Lies wc (w.heap.size + 1) f a1 a2 a3 m a5 ∧ Lies wc (w.heap.size + 1 + 1 + 1 + 1) 0 0 0 0 m 0) ?_ ?_
  · refine ⟨by simp; omega, by simp; omega, ?_, ⟨?_, ?_, ?_, ?_, ?_, ?_⟩, ⟨?_, ?_, ?_, ?_, ?_, ?_⟩⟩
    · exact ((hbel.alloc (by omega) _).alloc (by simp; omega) _).drew
    all_goals go_simp
  clear hs1 hs2 hbel c0 c1 c2 c3 c4 c5 d0 d1 d2 d3 d4 d5
  rintro wd ⟨hs1, hs2, hbel, ⟨c0, c1, c2, c3, c4, c5⟩, d0, d1, d2, d3, d4, d5⟩
  go_region_held3 (fun w' => w'.cell? ⟨w.heap.size + 1, 0, none⟩ = some (.float .f64 f) ∧ w'.cell? ⟨w.heap.size + 1, 1, none⟩ = some (.int .i64 a1) ∧ w'.cell? ⟨w.heap.size + 1, 2, none⟩ = some (.int .i64 a2) ∧ w'.cell? ⟨w.heap.size + 1, 3, none⟩ = some (.int .i64 a3) ∧ w'.cell? ⟨w.heap.size + 1, 4, none⟩ = some (.int .i64 m) ∧ w'.cell? ⟨w.heap.size + 1, 5, none⟩ = some (.int .i64 a5) ∧ w'.cell? ⟨w.heap.size + 1 + 1 + 1 + 1, 0, none⟩ = some (.float .f64 0) ∧ w'.cell? ⟨w.heap.size + 1 + 1 + 1 + 1, 1, none⟩ = some (.int .i64 0) ∧ w'.cell? ⟨w.heap.size + 1 + 1 + 1 + 1, 2, none⟩ = some (.int .i64 0) ∧ w'.cell? ⟨w.heap.size + 1 + 1 + 1 + 1, 3, none⟩ = some (.int .i64 0) ∧ w'.cell? ⟨w.heap.size + 1 + 1 + 1 + 1, 4, none⟩ = some (.int .i64 m) ∧ w'.cell? ⟨w.heap.size + 1 + 1 + 1 + 1, 5, none⟩ = some (.int .i64 0)) ((repeat' apply And.intro) <;> (repeat (first | with_reducible assumption | apply held_drew | apply held_alloc)))
    (first | (go_at_call 13; refine (new_ex _ _).mono ?_; rintro e w' ⟨rfl, rfl⟩) | (go_at_call 12; refine (retries_ex _ _ _ _ _ _ _ s _ _ (by simp) (by go_simp)).mono ?_; rintro e w' ⟨rfl, rfl⟩))
  go_wp2
  go_ret
  exact ⟨rfl, ((((hbel.alloc (by omega) _).alloc (by simp; omega) _).alloc (by simp; omega) _).alloc (by simp; omega) _).drew⟩

set_option maxHeartbeats 1000000 in
theorem way_zero_less (f : Nat) (a1 a2 a3 m a5 t s : Int) (ht : t ≤ 9223372036854775807) (ht' : -9223372036854775808 ≤ t) (hm : m ≤ 9223372036854775807) (hm' : -9223372036854775808 ≤ m) (w : World) (h1 : 0 ≤ m) (h1z : m ≤ 0) (h2 : t < 9223372036854775807) (h3 : t + 1 < m) :
    Calls Trym.prog 5 #[.float .f64 f, .int .i64 a1, .int .i64 a2, .int .i64 a3, .int .i64 m, .int .i64 a5, .int .i64 t, .int .i64 s] w fun e w' =>
      e = .returned (.bool true) ∧ Below w.heap.size w w' := by
  go_enter Trym.func5, Trym.ntmps5
  go_wp2_with (first | (go_at_call 11; refine (new_pol _ _ _ _ _ _ _).mono ?_; rintro e w' ⟨rfl, rfl⟩) | (go_at_call 12; refine (retries_yes _ _ _ _ _ _ _ _ (by omega)).mono ?_; rintro e w' ⟨rfl, rfl⟩) | (go_at_call 12; refine (retries_no _ _ _ _ _ _ _ _ (by omega)).mono ?_; rintro e w' ⟨rfl, rfl⟩))
  refine wp_world (fun wc => w.heap.size + 1 < wc.heap.size ∧ w.heap.size + 1 + 1 + 1 + 1 + 1 + 1 < wc.heap.size ∧ Below w.heap.size w wc ∧ Lies wc (w.heap.size + 1) f a1 a2 a3 m a5 ∧ Lies wc (w.heap.size + 1 + 1 + 1 + 1 + 1 + 1) 0 0 0 0 m 0) ?_ ?_
  · refine ⟨by simp, by simp, ?_, ⟨?_, ?_, ?_, ?_, ?_, ?_⟩, ⟨?_, ?_, ?_, ?_, ?_, ?_⟩⟩
    · repeat (first | exact Below.refl _ _ | (refine Below.alloc ?_ (by simp <;> omega) _))
    all_goals go_simp
  rintro wc ⟨hs1, hs2, hbel, ⟨c0, c1, c2, c3, c4, c5⟩, d0, d1, d2, d3, d4, d5⟩
  go_region_held3 (fun w' => w'.cell? ⟨w.heap.size + 1, 0, none⟩ = some (.float .f64 f) ∧ w'.cell? ⟨w.heap.size + 1, 1, none⟩ = some (.int .i64 a1) ∧ w'.cell? ⟨w.heap.size + 1, 2, none⟩ = some (.int .i64 a2) ∧ w'.cell? ⟨w.heap.size + 1, 3, none⟩ = some (.int .i64 a3) ∧ w'.cell? ⟨w.heap.size + 1, 4, none⟩ = some (.int .i64 m) ∧ w'.cell? ⟨w.heap.size + 1, 5, none⟩ = some (.int .i64 a5) ∧ w'.cell? ⟨w.heap.size + 1 + 1 + 1 + 1 + 1 + 1, 0, none⟩ = some (.float .f64 0) ∧ w'.cell? ⟨w.heap.size + 1 + 1 + 1 + 1 + 1 + 1, 1, none⟩ = some (.int .i64 0) ∧ w'.cell? ⟨w.heap.size + 1 + 1 + 1 + 1 + 1 + 1, 2, none⟩ = some (.int .i64 0) ∧ w'.cell? ⟨w.heap.size + 1 + 1 + 1 + 1 + 1 + 1, 3, none⟩ = some (.int .i64 0) ∧ w'.cell? ⟨w.heap.size + 1 + 1 + 1 + 1 + 1 + 1, 4, none⟩ = some (.int .i64 m) ∧ w'.cell? ⟨w.heap.size + 1 + 1 + 1 + 1 + 1 + 1, 5, none⟩ = some (.int .i64 0)) ((repeat' apply And.intro) <;> (repeat (first | with_reducible assumption | apply held_drew | apply held_alloc)))
    (first | (go_at_call 12; refine (retries_nil _ _ _ _ _ _ _ _).mono ?_; rintro e w' ⟨rfl, rfl⟩))
  go_wp2_with fail
  refine wp_world (fun wc => w.heap.size + 1 < wc.heap.size ∧ w.heap.size + 1 + 1 + 1 + 1 + 1 + 1 < wc.heap.size ∧ Below w.heap.size w wc ∧ Lies wc (w.heap.size + 1) f a1 a2 a3 m a5 ∧ Lies wc (w.heap.size + 1 + 1 + 1 + 1 + 1 + 1) 0 0 0 0 m 0) ?_ ?_
  · refine ⟨by simp; omega, by simp; omega, ?_, ⟨?_, ?_, ?_, ?_, ?_, ?_⟩, ⟨?_, ?_, ?_, ?_, ?_, ?_⟩⟩
    · exact ((hbel.alloc (by omega) _).alloc (by simp; omega) _).drew
    all_goals go_simp
  clear hs1 hs2 hbel c0 c1 c2 c3 c4 c5 d0 d1 d2 d3 d4 d5
  rintro wd ⟨hs1, hs2, hbel, ⟨c0, c1, c2, c3, c4, c5⟩, d0, d1, d2, d3, d4, d5⟩
  go_region_held3 (fun w' => w'.cell? ⟨w.heap.size + 1, 0, none⟩ = some (.float .f64 f) ∧ w'.cell? ⟨w.heap.size + 1, 1, none⟩ = some (.int .i64 a1) ∧ w'.cell? ⟨w.heap.size + 1, 2, none⟩ = some (.int .i64 a2) ∧ w'.cell? ⟨w.heap.size + 1, 3, none⟩ = some (.int .i64 a3) ∧ w'.cell? ⟨w.heap.size + 1, 4, none⟩ = some (.int .i64 m) ∧ w'.cell? ⟨w.heap.size + 1, 5, none⟩ = some (.int .i64 a5) ∧ w'.cell? ⟨w.heap.size + 1 + 1 + 1 + 1 + 1 + 1, 0, none⟩ = some (.float .f64 0) ∧ w'.cell? ⟨w.heap.size + 1 + 1 + 1 + 1 + 1 + 1, 1, none⟩ = some (.int .i64 0) ∧ w'.cell? ⟨w.heap.size + 1 + 1 + 1 + 1 + 1 + 1, 2, none⟩ = some (.int .i64 0) ∧ w'.cell? ⟨w.heap.size + 1 + 1 + 1 + 1 + 1 + 1, 3, none⟩ = some (.int .i64 0) ∧ w'.cell? ⟨w.heap.size + 1 + 1 + 1 + 1 + 1 + 1, 4, none⟩ = some (.int .i64 m) ∧ w'.cell? ⟨w.heap.size + 1 + 1 + 1 + 1 + 1 + 1, 5, none⟩ = some (.int .i64 0)) ((repeat' apply And.intro) <;> (repeat (first | with_reducible assumption | apply held_drew | apply held_alloc)))
    (first | (go_at_call 13; refine (new_ex _ _).mono ?_; rintro e w' ⟨rfl, rfl⟩) | (go_at_call 12; refine (retries_ex _ _ _ _ _ _ _ s _ _ (by simp) (by go_simp)).mono ?_; rintro e w' ⟨rfl, rfl⟩))
  go_wp2
  go_ret
  exact ⟨rfl, ((((hbel.alloc (by omega) _).alloc (by simp; omega) _).alloc (by simp; omega) _).alloc (by simp; omega) _).drew⟩

set_option maxHeartbeats 1000000 in
theorem way_zero_more (f : Nat) (a1 a2 a3 m a5 t s : Int) (ht : t ≤ 9223372036854775807) (ht' : -9223372036854775808 ≤ t) (hm : m ≤ 9223372036854775807) (hm' : -9223372036854775808 ≤ m) (w : World) (h1 : 0 ≤ m) (h1z : m ≤ 0) (h2 : t < 9223372036854775807) (h3 : m ≤ t + 1) :
    Calls Trym.prog 5 #[.float .f64 f, .int .i64 a1, .int .i64 a2, .int .i64 a3, .int .i64 m, .int .i64 a5, .int .i64 t, .int .i64 s] w fun e w' =>
      e = .returned (.bool true) ∧ Below w.heap.size w w' := by
  go_enter Trym.func5, Trym.ntmps5
  go_wp2_with (first | (go_at_call 11; refine (new_pol _ _ _ _ _ _ _).mono ?_; rintro e w' ⟨rfl, rfl⟩) | (go_at_call 12; refine (retries_yes _ _ _ _ _ _ _ _ (by omega)).mono ?_; rintro e w' ⟨rfl, rfl⟩) | (go_at_call 12; refine (retries_no _ _ _ _ _ _ _ _ (by omega)).mono ?_; rintro e w' ⟨rfl, rfl⟩))
  refine wp_world (fun wc => w.heap.size + 1 < wc.heap.size ∧ w.heap.size + 1 + 1 + 1 + 1 + 1 < wc.heap.size ∧ Below w.heap.size w wc ∧ Lies wc (w.heap.size + 1) f a1 a2 a3 m a5 ∧ Lies wc (w.heap.size + 1 + 1 + 1 + 1 + 1) 0 0 0 0 m 0) ?_ ?_
  · refine ⟨by simp, by simp, ?_, ⟨?_, ?_, ?_, ?_, ?_, ?_⟩, ⟨?_, ?_, ?_, ?_, ?_, ?_⟩⟩
    · repeat (first | exact Below.refl _ _ | (refine Below.alloc ?_ (by simp <;> omega) _))
    all_goals go_simp
  rintro wc ⟨hs1, hs2, hbel, ⟨c0, c1, c2, c3, c4, c5⟩, d0, d1, d2, d3, d4, d5⟩
  go_region_held3 (fun w' => w'.cell? ⟨w.heap.size + 1, 0, none⟩ = some (.float .f64 f) ∧ w'.cell? ⟨w.heap.size + 1, 1, none⟩ = some (.int .i64 a1) ∧ w'.cell? ⟨w.heap.size + 1, 2, none⟩ = some (.int .i64 a2) ∧ w'.cell? ⟨w.heap.size + 1, 3, none⟩ = some (.int .i64 a3) ∧ w'.cell? ⟨w.heap.size + 1, 4, none⟩ = some (.int .i64 m) ∧ w'.cell? ⟨w.heap.size + 1, 5, none⟩ = some (.int .i64 a5) ∧ w'.cell? ⟨w.heap.size + 1 + 1 + 1 + 1 + 1, 0, none⟩ = some (.float .f64 0) ∧ w'.cell? ⟨w.heap.size + 1 + 1 + 1 + 1 + 1, 1, none⟩ = some (.int .i64 0) ∧ w'.cell? ⟨w.heap.size + 1 + 1 + 1 + 1 + 1, 2, none⟩ = some (.int .i64 0) ∧ w'.cell? ⟨w.heap.size + 1 + 1 + 1 + 1 + 1, 3, none⟩ = some (.int .i64 0) ∧ w'.cell? ⟨w.heap.size + 1 + 1 + 1 + 1 + 1, 4, none⟩ = some (.int .i64 m) ∧ w'.cell? ⟨w.heap.size + 1 + 1 + 1 + 1 + 1, 5, none⟩ = some (.int .i64 0)) ((repeat' apply And.intro) <;> (repeat (first | with_reducible assumption | apply held_drew | apply held_alloc)))
    (first | (go_at_call 12; refine (retries_nil _ _ _ _ _ _ _ _).mono ?_; rintro e w' ⟨rfl, rfl⟩))
  go_wp2_with fail
  refine wp_world (fun wc => w.heap.size + 1 < wc.heap.size ∧ w.heap.size + 1 + 1 + 1 + 1 + 1 < wc.heap.size ∧ Below w.heap.size w wc ∧ Lies wc (w.heap.size + 1) f a1 a2 a3 m a5 ∧ Lies wc (w.heap.size + 1 + 1 + 1 + 1 + 1) 0 0 0 0 m 0) ?_ ?_
  · refine ⟨by simp; omega, by simp; omega, ?_, ⟨?_, ?_, ?_, ?_, ?_, ?_⟩, ⟨?_, ?_, ?_, ?_, ?_, ?_⟩⟩
    · exact ((hbel.alloc (by omega) _).alloc (by simp; omega) _).drew
    all_goals go_simp
  clear hs1 hs2 hbel c0 c1 c2 c3 c4 c5 d0 d1 d2 d3 d4 d5
  rintro wd ⟨hs1, hs2, hbel, ⟨c0, c1, c2, c3, c4, c5⟩, d0, d1, d2, d3, d4, d5⟩
  go_region_held3 (fun w' => w'.cell? ⟨w.heap.size + 1, 0, none⟩ = some (.float .f64 f) ∧ w'.cell? ⟨w.heap.size + 1, 1, none⟩ = some (.int .i64 a1) ∧ w'.cell? ⟨w.heap.size + 1, 2, none⟩ = some (.int .i64 a2) ∧ w'.cell? ⟨w.heap.size + 1, 3, none⟩ = some (.int .i64 a3) ∧ w'.cell? ⟨w.heap.size + 1, 4, none⟩ = some (.int .i64 m) ∧ w'.cell? ⟨w.heap.size + 1, 5, none⟩ = some (.int .i64 a5) ∧ w'.cell? ⟨w.heap.size + 1 + 1 + 1 + 1 + 1, 0, none⟩ = some (.float .f64 0) ∧ w'.cell? ⟨w.heap.size + 1 + 1 + 1 + 1 + 1, 1, none⟩ = some (.int .i64 0) ∧ w'.cell? ⟨w.heap.size + 1 + 1 + 1 + 1 + 1, 2, none⟩ = some (.int .i64 0) ∧ w'.cell? ⟨w.heap.size + 1 + 1 + 1 + 1 + 1, 3, none⟩ = some (.int .i64 0) ∧ w'.cell? ⟨w.heap.size + 1 + 1 + 1 + 1 + 1, 4, none⟩ = some (.int .i64 m) ∧ w'.cell? ⟨w.heap.size + 1 + 1 + 1 + 1 + 1, 5, none⟩ = some (.int .i64 0)) ((repeat' apply And.intro) <;> (repeat (first | with_reducible assumption | apply held_drew | apply held_alloc)))
    (first | (go_at_call 13; refine (new_ex _ _).mono ?_; rintro e w' ⟨rfl, rfl⟩) | (go_at_call 12; refine (retries_ex _ _ _ _ _ _ _ s _ _ (by simp) (by go_simp)).mono ?_; rintro e w' ⟨rfl, rfl⟩))
  go_wp2
  go_ret
  exact ⟨rfl, ((((hbel.alloc (by omega) _).alloc (by simp; omega) _).alloc (by simp; omega) _).alloc (by simp; omega) _).drew⟩

set_option maxHeartbeats 1000000 in
theorem way_pos_max (f : Nat) (a1 a2 a3 m a5 t s : Int) (ht : t ≤ 9223372036854775807) (ht' : -9223372036854775808 ≤ t) (hm : m ≤ 9223372036854775807) (hm' : -9223372036854775808 ≤ m) (w : World) (h1 : 0 < m) (h2 : 9223372036854775806 < t) :
    Calls Trym.prog 5 #[.float .f64 f, .int .i64 a1, .int .i64 a2, .int .i64 a3, .int .i64 m, .int .i64 a5, .int .i64 t, .int .i64 s] w fun e w' =>
      e = .returned (.bool true) ∧ Below w.heap.size w w' := by
  go_enter Trym.func5, Trym.ntmps5
  go_wp2_with (first | (go_at_call 11; refine (new_pol _ _ _ _ _ _ _).mono ?_; rintro e w' ⟨rfl, rfl⟩) | (go_at_call 12; refine (retries_yes _ _ _ _ _ _ _ _ (by omega)).mono ?_; rintro e w' ⟨rfl, rfl⟩) | (go_at_call 12; refine (retries_no _ _ _ _ _ _ _ _ (by omega)).mono ?_; rintro e w' ⟨rfl, rfl⟩))
  refine wp_world (fun wc => w.heap.size + 1 < wc.heap.size ∧ w.heap.size + 1 + 1 + 1 + 1 + 1 < wc.heap.size ∧ Below w.heap.size w wc ∧ Lies wc (w.heap.size + 1) f a1 a2 a3 m a5 ∧ Lies wc (w.heap.size + 1 + 1 + 1 + 1 + 1) 0 0 0 0 m 0) ?_ ?_
  · refine ⟨by simp, by simp, ?_, ⟨?_, ?_, ?_, ?_, ?_, ?_⟩, ⟨?_, ?_, ?_, ?_, ?_, ?_⟩⟩
    · repeat (first | exact Below.refl _ _ | (refine Below.alloc ?_ (by simp <;> omega) _))
    all_goals go_simp
  rintro wc ⟨hs1, hs2, hbel, ⟨c0, c1, c2, c3, c4, c5⟩, d0, d1, d2, d3, d4, d5⟩
  go_region_held3 (fun w' => w'.cell? ⟨w.heap.size + 1, 0, none⟩ = some (.float .f64 f) ∧ w'.cell? ⟨w.heap.size + 1, 1, none⟩ = some (.int .i64 a1) ∧ w'.cell? ⟨w.heap.size + 1, 2, none⟩ = some (.int .i64 a2) ∧ w'.cell? ⟨w.heap.size + 1, 3, none⟩ = some (.int .i64 a3) ∧ w'.cell? ⟨w.heap.size + 1, 4, none⟩ = some (.int .i64 m) ∧ w'.cell? ⟨w.heap.size + 1, 5, none⟩ = some (.int .i64 a5) ∧ w'.cell? ⟨w.heap.size + 1 + 1 + 1 + 1 + 1, 0, none⟩ = some (.float .f64 0) ∧ w'.cell? ⟨w.heap.size + 1 + 1 + 1 + 1 + 1, 1, none⟩ = some (.int .i64 0) ∧ w'.cell? ⟨w.heap.size + 1 + 1 + 1 + 1 + 1, 2, none⟩ = some (.int .i64 0) ∧ w'.cell? ⟨w.heap.size + 1 + 1 + 1 + 1 + 1, 3, none⟩ = some (.int .i64 0) ∧ w'.cell? ⟨w.heap.size + 1 + 1 + 1 + 1 + 1, 4, none⟩ = some (.int .i64 m) ∧ w'.cell? ⟨w.heap.size + 1 + 1 + 1 + 1 + 1, 5, none⟩ = some (.int .i64 0)) ((repeat' apply And.intro) <;> (repeat (first | with_reducible assumption | apply held_drew | apply held_alloc)))
    (first | (go_at_call 12; refine (retries_nil _ _ _ _ _ _ _ _).mono ?_; rintro e w' ⟨rfl, rfl⟩))
  go_wp2_with fail
  refine wp_world (fun wc => w.heap.size + 1 < wc.heap.size ∧ w.heap.size + 1 + 1 + 1 + 1 + 1 < wc.heap.size ∧ Below w.heap.size w wc ∧ Lies wc (w.heap.size + 1) f a1 a2 a3 m a5 ∧ Lies wc (w.heap.size + 1 + 1 + 1 + 1 + 1) 0 0 0 0 m 0) ?_ ?_
  · refine ⟨by simp; omega, by simp; omega, ?_, ⟨?_, ?_, ?_, ?_, ?_, ?_⟩, ⟨?_, ?_, ?_, ?_, ?_, ?_⟩⟩
    · exact ((hbel.alloc (by omega) _).alloc (by simp; omega) _).drew
    all_goals go_simp
  clear hs1 hs2 hbel c0 c1 c2 c3 c4 c5 d0 d1 d2 d3 d4 d5
  rintro wd ⟨hs1, hs2, hbel, ⟨c0, c1, c2, c3, c4, c5⟩, d0, d1, d2, d3, d4, d5⟩
  go_region_held3 (fun w' => w'.cell? ⟨w.heap.size + 1, 0, none⟩ = some (.float .f64 f) ∧ w'.cell? ⟨w.heap.size + 1, 1, none⟩ = some (.int .i64 a1) ∧ w'.cell? ⟨w.heap.size + 1, 2, none⟩ = some (.int .i64 a2) ∧ w'.cell? ⟨w.heap.size + 1, 3, none⟩ = some (.int .i64 a3) ∧ w'.cell? ⟨w.heap.size + 1, 4, none⟩ = some (.int .i64 m) ∧ w'.cell? ⟨w.heap.size + 1, 5, none⟩ = some (.int .i64 a5) ∧ w'.cell? ⟨w.heap.size + 1 + 1 + 1 + 1 + 1, 0, none⟩ = some (.float .f64 0) ∧ w'.cell? ⟨w.heap.size + 1 + 1 + 1 + 1 + 1, 1, none⟩ = some (.int .i64 0) ∧ w'.cell? ⟨w.heap.size + 1 + 1 + 1 + 1 + 1, 2, none⟩ = some (.int .i64 0) ∧ w'.cell? ⟨w.heap.size + 1 + 1 + 1 + 1 + 1, 3, none⟩ = some (.int .i64 0) ∧ w'.cell? ⟨w.heap.size + 1 + 1 + 1 + 1 + 1, 4, none⟩ = some (.int .i64 m) ∧ w'.cell? ⟨w.heap.size + 1 + 1 + 1 + 1 + 1, 5, none⟩ = some (.int .i64 0)) ((repeat' apply And.intro) <;> (repeat (first | with_reducible assumption | apply held_drew | apply held_alloc)))
    (first | (go_at_call 13; refine (new_ex _ _).mono ?_; rintro e w' ⟨rfl, rfl⟩) | (go_at_call 12; refine (retries_ex _ _ _ _ _ _ _ s _ _ (by simp) (by go_simp)).mono ?_; rintro e w' ⟨rfl, rfl⟩))
  go_wp2
  go_ret
  exact ⟨rfl, ((((hbel.alloc (by omega) _).alloc (by simp; omega) _).alloc (by simp; omega) _).alloc (by simp; omega) _).drew⟩

set_option maxHeartbeats 1000000 in
theorem way_pos_less (f : Nat) (a1 a2 a3 m a5 t s : Int) (ht : t ≤ 9223372036854775807) (ht' : -9223372036854775808 ≤ t) (hm : m ≤ 9223372036854775807) (hm' : -9223372036854775808 ≤ m) (w : World) (h1 : 0 < m) (h2 : t < 9223372036854775807) (h3 : t + 1 < m) :
    Calls Trym.prog 5 #[.float .f64 f, .int .i64 a1, .int .i64 a2, .int .i64 a3, .int .i64 m, .int .i64 a5, .int .i64 t, .int .i64 s] w fun e w' =>
      e = .returned (.bool true) ∧ Below w.heap.size w w' := by
  go_enter Trym.func5, Trym.ntmps5
  go_wp2_with (first | (go_at_call 11; refine (new_pol _ _ _ _ _ _ _).mono ?_; rintro e w' ⟨rfl, rfl⟩) | (go_at_call 12; refine (retries_yes _ _ _ _ _ _ _ _ (by omega)).mono ?_; rintro e w' ⟨rfl, rfl⟩) | (go_at_call 12; refine (retries_no _ _ _ _ _ _ _ _ (by omega)).mono ?_; rintro e w' ⟨rfl, rfl⟩))
  refine wp_world (fun wc => w.heap.size + 1 < wc.heap.size ∧ w.heap.size + 1 + 1 + 1 + 1 + 1 + 1 + 1 < wc.heap.size ∧ Below w.heap.size w wc ∧ Lies wc (w.heap.size + 1) f a1 a2 a3 m a5 ∧ Lies wc (w.heap.size + 1 + 1 + 1 + 1 + 1 + 1 + 1) 0 0 0 0 m 0) ?_ ?_
  · refine ⟨by simp, by simp, ?_, ⟨?_, ?_, ?_, ?_, ?_, ?_⟩, ⟨?_, ?_, ?_, ?_, ?_, ?_⟩⟩
    · repeat (first | exact Below.refl _ _ | (refine Below.alloc ?_ (by simp <;> omega) _))
    all_goals go_simp
  rintro wc ⟨hs1, hs2, hbel, ⟨c0, c1, c2, c3, c4, c5⟩, d0, d1, d2, d3, d4, d5⟩
  go_region_held3 (fun w' => w'.cell? ⟨w.heap.size + 1, 0, none⟩ = some (.float .f64 f) ∧ w'.cell? ⟨w.heap.size + 1, 1, none⟩ = some (.int .i64 a1) ∧ w'.cell? ⟨w.heap.size + 1, 2, none⟩ = some (.int .i64 a2) ∧ w'.cell? ⟨w.heap.size + 1, 3, none⟩ = some (.int .i64 a3) ∧ w'.cell? ⟨w.heap.size + 1, 4, none⟩ = some (.int .i64 m) ∧ w'.cell? ⟨w.heap.size + 1, 5, none⟩ = some (.int .i64 a5) ∧ w'.cell? ⟨w.heap.size + 1 + 1 + 1 + 1 + 1 + 1 + 1, 0, none⟩ = some (.float .f64 0) ∧ w'.cell? ⟨w.heap.size + 1 + 1 + 1 + 1 + 1 + 1 + 1, 1, none⟩ = some (.int .i64 0) ∧ w'.cell? ⟨w.heap.size + 1 + 1 + 1 + 1 + 1 + 1 + 1, 2, none⟩ = some (.int .i64 0) ∧ w'.cell? ⟨w.heap.size + 1 + 1 + 1 + 1 + 1 + 1 + 1, 3, none⟩ = some (.int .i64 0) ∧ w'.cell? ⟨w.heap.size + 1 + 1 + 1 + 1 + 1 + 1 + 1, 4, none⟩ = some (.int .i64 m) ∧ w'.cell? ⟨w.heap.size + 1 + 1 + 1 + 1 + 1 + 1 + 1, 5, none⟩ = some (.int .i64 0)) ((repeat' apply And.intro) <;> (repeat (first | with_reducible assumption | apply held_drew | apply held_alloc)))
    (first | (go_at_call 12; refine (retries_nil _ _ _ _ _ _ _ _).mono ?_; rintro e w' ⟨rfl, rfl⟩))
  go_wp2_with fail
  refine wp_world (fun wc => w.heap.size + 1 < wc.heap.size ∧ w.heap.size + 1 + 1 + 1 + 1 + 1 + 1 + 1 < wc.heap.size ∧ Below w.heap.size w wc ∧ Lies wc (w.heap.size + 1) f a1 a2 a3 m a5 ∧ Lies wc (w.heap.size + 1 + 1 + 1 + 1 + 1 + 1 + 1) 0 0 0 0 m 0) ?_ ?_
  · refine ⟨by simp; omega, by simp; omega, ?_, ⟨?_, ?_, ?_, ?_, ?_, ?_⟩, ⟨?_, ?_, ?_, ?_, ?_, ?_⟩⟩
    · exact ((hbel.alloc (by omega) _).alloc (by simp; omega) _).drew
    all_goals go_simp
  clear hs1 hs2 hbel c0 c1 c2 c3 c4 c5 d0 d1 d2 d3 d4 d5
  rintro wd ⟨hs1, hs2, hbel, ⟨c0, c1, c2, c3, c4, c5⟩, d0, d1, d2, d3, d4, d5⟩
  go_region_held3 (fun w' => w'.cell? ⟨w.heap.size + 1, 0, none⟩ = some (.float .f64 f) ∧ w'.cell? ⟨w.heap.size + 1, 1, none⟩ = some (.int .i64 a1) ∧ w'.cell? ⟨w.heap.size + 1, 2, none⟩ = some (.int .i64 a2) ∧ w'.cell? ⟨w.heap.size + 1, 3, none⟩ = some (.int .i64 a3) ∧ w'.cell? ⟨w.heap.size + 1, 4, none⟩ = some (.int .i64 m) ∧ w'.cell? ⟨w.heap.size + 1, 5, none⟩ = some (.int .i64 a5) ∧ w'.cell? ⟨w.heap.size + 1 + 1 + 1 + 1 + 1 + 1 + 1, 0, none⟩ = some (.float .f64 0) ∧ w'.cell? ⟨w.heap.size + 1 + 1 + 1 + 1 + 1 + 1 + 1, 1, none⟩ = some (.int .i64 0) ∧ w'.cell? ⟨w.heap.size + 1 + 1 + 1 + 1 + 1 + 1 + 1, 2, none⟩ = some (.int .i64 0) ∧ w'.cell? ⟨w.heap.size + 1 + 1 + 1 + 1 + 1 + 1 + 1, 3, none⟩ = some (.int .i64 0) ∧ w'.cell? ⟨w.heap.size + 1 + 1 + 1 + 1 + 1 + 1 + 1, 4, none⟩ = some (.int .i64 m) ∧ w'.cell? ⟨w.heap.size + 1 + 1 + 1 + 1 + 1 + 1 + 1, 5, none⟩ = some (.int .i64 0)) ((repeat' apply And.intro) <;> (repeat (first | with_reducible assumption | apply held_drew | apply held_alloc)))
    (first | (go_at_call 13; refine (new_ex _ _).mono ?_; rintro e w' ⟨rfl, rfl⟩) | (go_at_call 12; refine (retries_ex _ _ _ _ _ _ _ s _ _ (by simp) (by go_simp)).mono ?_; rintro e w' ⟨rfl, rfl⟩))
  go_wp2
  go_ret
  exact ⟨rfl, ((((hbel.alloc (by omega) _).alloc (by simp; omega) _).alloc (by simp; omega) _).alloc (by simp; omega) _).drew⟩

set_option maxHeartbeats 1000000 in
theorem way_pos_more (f : Nat) (a1 a2 a3 m a5 t s : Int) (ht : t ≤ 9223372036854775807) (ht' : -9223372036854775808 ≤ t) (hm : m ≤ 9223372036854775807) (hm' : -9223372036854775808 ≤ m) (w : World) (h1 : 0 < m) (h2 : t < 9223372036854775807) (h3 : m ≤ t + 1) :
    Calls Trym.prog 5 #[.float .f64 f, .int .i64 a1, .int .i64 a2, .int .i64 a3, .int .i64 m, .int .i64 a5, .int .i64 t, .int .i64 s] w fun e w' =>
      e = .returned (.bool true) ∧ Below w.heap.size w w' := by
  go_enter Trym.func5, Trym.ntmps5
  go_wp2_with (first | (go_at_call 11; refine (new_pol _ _ _ _ _ _ _).mono ?_; rintro e w' ⟨rfl, rfl⟩) | (go_at_call 12; refine (retries_yes _ _ _ _ _ _ _ _ (by omega)).mono ?_; rintro e w' ⟨rfl, rfl⟩) | (go_at_call 12; refine (retries_no _ _ _ _ _ _ _ _ (by omega)).mono ?_; rintro e w' ⟨rfl, rfl⟩))
  refine wp_world (fun wc => w.heap.size + 1 < wc.heap.size ∧ w.heap.size + 1 + 1 + 1 + 1 + 1 + 1 < wc.heap.size ∧ Below w.heap.size w wc ∧ Lies wc (w.heap.size + 1) f a1 a2 a3 m a5 ∧ Lies wc (w.heap.size + 1 + 1 + 1 + 1 + 1 + 1) 0 0 0 0 m 0) ?_ ?_
  · refine ⟨by simp, by simp, ?_, ⟨?_, ?_, ?_, ?_, ?_, ?_⟩, ⟨?_, ?_, ?_, ?_, ?_, ?_⟩⟩
    · repeat (first | exact Below.refl _ _ | (refine Below.alloc ?_ (by simp <;> omega) _))
    all_goals go_simp
  rintro wc ⟨hs1, hs2, hbel, ⟨c0, c1, c2, c3, c4, c5⟩, d0, d1, d2, d3, d4, d5⟩
  go_region_held3 (fun w' => w'.cell? ⟨w.heap.size + 1, 0, none⟩ = some (.float .f64 f) ∧ w'.cell? ⟨w.heap.size + 1, 1, none⟩ = some (.int .i64 a1) ∧ w'.cell? ⟨w.heap.size + 1, 2, none⟩ = some (.int .i64 a2) ∧ w'.cell? ⟨w.heap.size + 1, 3, none⟩ = some (.int .i64 a3) ∧ w'.cell? ⟨w.heap.size + 1, 4, none⟩ = some (.int .i64 m) ∧ w'.cell? ⟨w.heap.size + 1, 5, none⟩ = some (.int .i64 a5) ∧ w'.cell? ⟨w.heap.size + 1 + 1 + 1 + 1 + 1 + 1, 0, none⟩ = some (.float .f64 0) ∧ w'.cell? ⟨w.heap.size + 1 + 1 + 1 + 1 + 1 + 1, 1, none⟩ = some (.int .i64 0) ∧ w'.cell? ⟨w.heap.size + 1 + 1 + 1 + 1 + 1 + 1, 2, none⟩ = some (.int .i64 0) ∧ w'.cell? ⟨w.heap.size + 1 + 1 + 1 + 1 + 1 + 1, 3, none⟩ = some (.int .i64 0) ∧ w'.cell? ⟨w.heap.size + 1 + 1 + 1 + 1 + 1 + 1, 4, none⟩ = some (.int .i64 m) ∧ w'.cell? ⟨w.heap.size + 1 + 1 + 1 + 1 + 1 + 1, 5, none⟩ = some (.int .i64 0)) ((repeat' apply And.intro) <;> (repeat (first | with_reducible assumption | apply held_drew | apply held_alloc)))
    (first | (go_at_call 12; refine (retries_nil _ _ _ _ _ _ _ _).mono ?_; rintro e w' ⟨rfl, rfl⟩))
  go_wp2_with fail
  refine wp_world (fun wc => w.heap.size + 1 < wc.heap.size ∧ w.heap.size + 1 + 1 + 1 + 1 + 1 + 1 < wc.heap.size ∧ Below w.heap.size w wc ∧ Lies wc (w.heap.size + 1) f a1 a2 a3 m a5 ∧ Lies wc (w.heap.size + 1 + 1 + 1 + 1 + 1 + 1) 0 0 0 0 m 0) ?_ ?_
  · refine ⟨by simp; omega, by simp; omega, ?_, ⟨?_, ?_, ?_, ?_, ?_, ?_⟩, ⟨?_, ?_, ?_, ?_, ?_, ?_⟩⟩
    · exact ((hbel.alloc (by omega) _).alloc (by simp; omega) _).drew
    all_goals go_simp
  clear hs1 hs2 hbel c0 c1 c2 c3 c4 c5 d0 d1 d2 d3 d4 d5
  rintro wd ⟨hs1, hs2, hbel, ⟨c0, c1, c2, c3, c4, c5⟩, d0, d1, d2, d3, d4, d5⟩
  go_region_held3 (fun w' => w'.cell? ⟨w.heap.size + 1, 0, none⟩ = some (.float .f64 f) ∧ w'.cell? ⟨w.heap.size + 1, 1, none⟩ = some (.int .i64 a1) ∧ w'.cell? ⟨w.heap.size + 1, 2, none⟩ = some (.int .i64 a2) ∧ w'.cell? ⟨w.heap.size + 1, 3, none⟩ = some (.int .i64 a3) ∧ w'.cell? ⟨w.heap.size + 1, 4, none⟩ = some (.int .i64 m) ∧ w'.cell? ⟨w.heap.size + 1, 5, none⟩ = some (.int .i64 a5) ∧ w'.cell? ⟨w.heap.size + 1 + 1 + 1 + 1 + 1 + 1, 0, none⟩ = some (.float .f64 0) ∧ w'.cell? ⟨w.heap.size + 1 + 1 + 1 + 1 + 1 + 1, 1, none⟩ = some (.int .i64 0) ∧ w'.cell? ⟨w.heap.size + 1 + 1 + 1 + 1 + 1 + 1, 2, none⟩ = some (.int .i64 0) ∧ w'.cell? ⟨w.heap.size + 1 + 1 + 1 + 1 + 1 + 1, 3, none⟩ = some (.int .i64 0) ∧ w'.cell? ⟨w.heap.size + 1 + 1 + 1 + 1 + 1 + 1, 4, none⟩ = some (.int .i64 m) ∧ w'.cell? ⟨w.heap.size + 1 + 1 + 1 + 1 + 1 + 1, 5, none⟩ = some (.int .i64 0)) ((repeat' apply And.intro) <;> (repeat (first | with_reducible assumption | apply held_drew | apply held_alloc)))
    (first | (go_at_call 13; refine (new_ex _ _).mono ?_; rintro e w' ⟨rfl, rfl⟩) | (go_at_call 12; refine (retries_ex _ _ _ _ _ _ _ s _ _ (by simp) (by go_simp)).mono ?_; rintro e w' ⟨rfl, rfl⟩))
  go_wp2
  go_ret
  exact ⟨rfl, ((((hbel.alloc (by omega) _).alloc (by simp; omega) _).alloc (by simp; omega) _).alloc (by simp; omega) _).drew⟩

end Go.Proofs.Qxb6616439aMods.fnRetriesBudgetIsMaxRetries

