/-
  (DateTime).addSecond, by contracts: one a way.
-/
import Derived.Test.YbulkawaDoorCal
import Derived.WalkSmall
import Derived.Deep.DeepCutAuto
namespace Go.Proofs.YbulkawaDoor.Cal
open Go.RowKit
set_option linter.unusedVariables false
set_option linter.unusedSimpArgs false

theorem setCell_drewN (w : World) (n : Nat) (a : Addr) (v : Value) : (w.drewN n).setCell a v = (w.setCell a v).drewN n := rfl
theorem alloc_drewN (w : World) (n : Nat) (o : Obj) : (w.drewN n).alloc o = (w.alloc o).drewN n := rfl

theorem Tab.alloc {w : World} (h : Tab w) (o : Obj) : Tab (w.alloc o) := fun i hi => by
  have := h i hi
  rw [World.cell?_of_block (w := w) (Below.heap_alloc w o 0 (World.block_lt_of_cell? _ _ this))]
  exact this

theorem Tab.below {w w' : World} (h : Tab w) (hb : Below w.heap.size w w') : Tab w' := fun i hi => by
  have := h i hi
  rw [hb.cell (p := ⟨0, i, none⟩) (World.block_lt_of_cell? _ _ this)]
  exact this

abbrev S (y mo d h mi s mc f : Int) : Value := .agg #[.int .i64 y, .int .i64 mo, .int .i64 d, .int .i64 h, .int .i64 mi, .int .i64 s, .int .i64 mc, .int .i64 f]
abbrev R (y mo d h mi s mc f : Int) (b : Bool) : Ending := .returned (.tuple #[S y mo d h mi s mc f, .bool b])

set_option maxHeartbeats 1000000 in
theorem add_A (y mo d h mi s mc f : Int) (w : World) (s0 : 0 ≤ s) (s1 : s < 59) :
    Calls Ybad.prog 6 #[S y mo d h mi s mc f] w fun e w' => e = R y mo d h mi (s + 1) mc f true ∧ Below w.heap.size w w' := by
  go_enter Ybad.func6, Ybad.ntmps6
  go_wp2
  refine bodyPost_ret (v := .tuple #[S y mo d h mi (s + 1) mc f, .bool true]) ?_ rfl ⟨rfl, ?_⟩
  · simp [results, Ybad.results6, go_sem]
  · exact (by repeat (first | with_reducible refine Below.setCell ?_ (by simp) _ | with_reducible refine below_drewN ?_ _ | with_reducible refine Below.alloc ?_ (by simp) _ | with_reducible exact Below.refl _ _))

set_option maxHeartbeats 1000000 in
theorem add_B (y mo d h mi mc f : Int) (w : World) (s0 : 0 ≤ mi) (s1 : mi < 59) :
    Calls Ybad.prog 6 #[S y mo d h mi 59 mc f] w fun e w' => e = R y mo d h (mi + 1) 0 mc f true ∧ Below w.heap.size w w' := by
  go_enter Ybad.func6, Ybad.ntmps6
  go_wp2
  refine bodyPost_ret (v := .tuple #[S y mo d h (mi + 1) 0 mc f, .bool true]) ?_ rfl ⟨rfl, ?_⟩
  · simp [results, Ybad.results6, go_sem]
  · exact (by repeat (first | with_reducible refine Below.setCell ?_ (by simp) _ | with_reducible refine below_drewN ?_ _ | with_reducible refine Below.alloc ?_ (by simp) _ | with_reducible exact Below.refl _ _))

set_option maxHeartbeats 1000000 in
theorem add_C (y mo d h mc f : Int) (w : World) (s0 : 0 ≤ h) (s1 : h < 23) :
    Calls Ybad.prog 6 #[S y mo d h 59 59 mc f] w fun e w' => e = R y mo d (h + 1) 0 0 mc f true ∧ Below w.heap.size w w' := by
  go_enter Ybad.func6, Ybad.ntmps6
  go_wp2
  refine bodyPost_ret (v := .tuple #[S y mo d (h + 1) 0 0 mc f, .bool true]) ?_ rfl ⟨rfl, ?_⟩
  · simp [results, Ybad.results6, go_sem]
  · exact (by repeat (first | with_reducible refine Below.setCell ?_ (by simp) _ | with_reducible refine below_drewN ?_ _ | with_reducible refine Below.alloc ?_ (by simp) _ | with_reducible exact Below.refl _ _))

set_option maxHeartbeats 1000000 in
theorem add_D1 (y d mc f : Int) (w : World) :
    Calls Ybad.prog 6 #[S y 0 d 23 59 59 mc f] w fun e w' => e = R 0 0 0 0 0 0 0 0 false ∧ Below w.heap.size w w' := by
  go_enter Ybad.func6, Ybad.ntmps6
  go_wp2
  go_quiet (fail)
  go_wp2
  refine bodyPost_ret (v := .tuple #[S 0 0 0 0 0 0 0 0, .bool false]) ?_ rfl ⟨rfl, ?_⟩
  · simp [results, Ybad.results6, go_sem]
  · exact (by repeat (first | with_reducible refine Below.setCell ?_ (by simp) _ | with_reducible refine below_drewN ?_ _ | with_reducible refine Below.alloc ?_ (by simp) _ | with_reducible exact Below.refl _ _))

set_option maxHeartbeats 1000000 in
theorem add_D2 (y mo mc f : Int) (w : World) (m0 : 1 ≤ mo) :
    Calls Ybad.prog 6 #[S y mo 0 23 59 59 mc f] w fun e w' => e = R 0 0 0 0 0 0 0 0 false ∧ Below w.heap.size w w' := by
  have dr := dim_range mo y
  have em : (mo == 0) = false := by simp; omega
  go_enter Ybad.func6, Ybad.ntmps6
  go_wp2
  go_quiet (fail)
  go_wp2
  refine bodyPost_ret (v := .tuple #[S 0 0 0 0 0 0 0 0, .bool false]) ?_ rfl ⟨rfl, ?_⟩
  · simp [results, Ybad.results6, go_sem]
  · exact (by repeat (first | with_reducible refine Below.setCell ?_ (by simp) _ | with_reducible refine below_drewN ?_ _ | with_reducible refine Below.alloc ?_ (by simp) _ | with_reducible exact Below.refl _ _))

set_option maxHeartbeats 1000000 in
theorem add_D3 (y mo d mc f : Int) (w : World) (ht : Tab w) (y0 : 0 ≤ y) (m0 : 1 ≤ mo) (m1 : mo ≤ 12) (d0 : 1 ≤ d) (d1 : dimN mo y < d) :
    Calls Ybad.prog 6 #[S y mo d 23 59 59 mc f] w fun e w' => e = R 0 0 0 0 0 0 0 0 false ∧ Below w.heap.size w w' := by
  have dr := dim_range mo y
  have em : (mo == 0) = false := by simp; omega
  have ed : (d == 0) = false := by simp; omega
  go_enter Ybad.func6, Ybad.ntmps6
  go_wp2
  go_quiet ((go_at_call 10; exact Calls.quiet_of_same (days_any _ _ _ (by omega) (by omega) (by omega) (ht.below (by repeat (first | with_reducible refine Below.setCell ?_ (by simp) _ | with_reducible refine below_drewN ?_ _ | with_reducible refine Below.alloc ?_ (by simp) _ | with_reducible exact Below.refl _ _))))))
  go_wp2
  refine bodyPost_ret (v := .tuple #[S 0 0 0 0 0 0 0 0, .bool false]) ?_ rfl ⟨rfl, ?_⟩
  · simp [results, Ybad.results6, go_sem]
  · exact (by repeat (first | with_reducible refine Below.setCell ?_ (by simp) _ | with_reducible refine below_drewN ?_ _ | with_reducible refine Below.alloc ?_ (by simp) _ | with_reducible exact Below.refl _ _))

set_option maxHeartbeats 1000000 in
theorem add_E (y mo d mc f : Int) (w : World) (ht : Tab w) (y0 : 0 ≤ y) (m0 : 1 ≤ mo) (m1 : mo ≤ 12) (d0 : 1 ≤ d) (d1 : d < dimN mo y) :
    Calls Ybad.prog 6 #[S y mo d 23 59 59 mc f] w fun e w' => e = R y mo (d + 1) 0 0 0 mc f true ∧ Below w.heap.size w w' := by
  have dr := dim_range mo y
  have em : (mo == 0) = false := by simp; omega
  have ed : (d == 0) = false := by simp; omega
  go_enter Ybad.func6, Ybad.ntmps6
  go_wp2
  go_quiet ((go_at_call 10; exact Calls.quiet_of_same (days_any _ _ _ (by omega) (by omega) (by omega) (ht.below (by repeat (first | with_reducible refine Below.setCell ?_ (by simp) _ | with_reducible refine below_drewN ?_ _ | with_reducible refine Below.alloc ?_ (by simp) _ | with_reducible exact Below.refl _ _))))))
  go_wp2
  go_quiet ((go_at_call 10; exact Calls.quiet_of_same (days_any _ _ _ (by omega) (by omega) (by omega) (ht.below (by repeat (first | with_reducible refine Below.setCell ?_ (by simp) _ | with_reducible refine below_drewN ?_ _ | with_reducible refine Below.alloc ?_ (by simp) _ | with_reducible exact Below.refl _ _))))))
  go_wp2
  refine bodyPost_ret (v := .tuple #[S y mo (d + 1) 0 0 0 mc f, .bool true]) ?_ rfl ⟨rfl, ?_⟩
  · simp [results, Ybad.results6, go_sem]
  · exact (by repeat (first | with_reducible refine Below.setCell ?_ (by simp) _ | with_reducible refine below_drewN ?_ _ | with_reducible refine Below.alloc ?_ (by simp) _ | with_reducible exact Below.refl _ _))

set_option maxHeartbeats 1000000 in
theorem add_F (y mo d mc f : Int) (w : World) (ht : Tab w) (y0 : 0 ≤ y) (m0 : 1 ≤ mo) (m1 : mo ≤ 12) (d0 : 1 ≤ d) (d1 : d ≤ dimN mo y) (d2 : dimN mo y ≤ d) (m2 : mo < 12) :
    Calls Ybad.prog 6 #[S y mo d 23 59 59 mc f] w fun e w' => e = R y (mo + 1) 1 0 0 0 mc f true ∧ Below w.heap.size w w' := by
  have dr := dim_range mo y
  have em : (mo == 0) = false := by simp; omega
  have ed : (d == 0) = false := by simp; omega
  go_enter Ybad.func6, Ybad.ntmps6
  go_wp2
  go_quiet ((go_at_call 10; exact Calls.quiet_of_same (days_any _ _ _ (by omega) (by omega) (by omega) (ht.below (by repeat (first | with_reducible refine Below.setCell ?_ (by simp) _ | with_reducible refine below_drewN ?_ _ | with_reducible refine Below.alloc ?_ (by simp) _ | with_reducible exact Below.refl _ _))))))
  go_wp2
  go_quiet ((go_at_call 10; exact Calls.quiet_of_same (days_any _ _ _ (by omega) (by omega) (by omega) (ht.below (by repeat (first | with_reducible refine Below.setCell ?_ (by simp) _ | with_reducible refine below_drewN ?_ _ | with_reducible refine Below.alloc ?_ (by simp) _ | with_reducible exact Below.refl _ _))))))
  go_wp2
  refine bodyPost_ret (v := .tuple #[S y (mo + 1) 1 0 0 0 mc f, .bool true]) ?_ rfl ⟨rfl, ?_⟩
  · simp [results, Ybad.results6, go_sem]
  · exact (by repeat (first | with_reducible refine Below.setCell ?_ (by simp) _ | with_reducible refine below_drewN ?_ _ | with_reducible refine Below.alloc ?_ (by simp) _ | with_reducible exact Below.refl _ _))

theorem days_12 (y : Int) (w : World) (h0 : 0 ≤ y) (ht : Tab w) : Calls Ybad.prog 10 #[.int .i64 12, .int .i64 y] w fun e w' => e = .returned (.int .i64 31) ∧ w' = w := by
  have := days_any 12 y w h0 (by omega) (by omega) ht
  rwa [dim_31 12 y (by omega) (by omega)] at this

set_option maxHeartbeats 1000000 in
theorem add_G (y mc f : Int) (w : World) (ht : Tab w) (y0 : 0 ≤ y) (y1 : y < 9999) :
    Calls Ybad.prog 6 #[S y 12 31 23 59 59 mc f] w fun e w' => e = R (y + 1) 1 1 0 0 0 mc f true ∧ Below w.heap.size w w' := by
  go_enter Ybad.func6, Ybad.ntmps6
  go_wp2
  go_quiet ((go_at_call 10; exact Calls.quiet_of_same (days_12 _ _ (by omega) (ht.below (by repeat (first | with_reducible refine Below.setCell ?_ (by simp) _ | with_reducible refine below_drewN ?_ _ | with_reducible refine Below.alloc ?_ (by simp) _ | with_reducible exact Below.refl _ _))))))
  go_wp2
  go_quiet ((go_at_call 10; exact Calls.quiet_of_same (days_12 _ _ (by omega) (ht.below (by repeat (first | with_reducible refine Below.setCell ?_ (by simp) _ | with_reducible refine below_drewN ?_ _ | with_reducible refine Below.alloc ?_ (by simp) _ | with_reducible exact Below.refl _ _))))))
  go_upto_region 26 with fail
  generalize hW : World.setCell _ _ _ = W
  have c0 : W.cell? ⟨w.heap.size, 0, none⟩ = some (.int .i64 (y + 1)) := by rw [← hW]; simp [go_sem, setCell_drewN]
  have c1 : W.cell? ⟨w.heap.size, 1, none⟩ = some (.int .i64 (1)) := by rw [← hW]; simp [go_sem, setCell_drewN]
  have c2 : W.cell? ⟨w.heap.size, 2, none⟩ = some (.int .i64 (1)) := by rw [← hW]; simp [go_sem, setCell_drewN]
  have c3 : W.cell? ⟨w.heap.size, 3, none⟩ = some (.int .i64 (0)) := by rw [← hW]; simp [go_sem, setCell_drewN]
  have c4 : W.cell? ⟨w.heap.size, 4, none⟩ = some (.int .i64 (0)) := by rw [← hW]; simp [go_sem, setCell_drewN]
  have c5 : W.cell? ⟨w.heap.size, 5, none⟩ = some (.int .i64 (0)) := by rw [← hW]; simp [go_sem, setCell_drewN]
  have c6 : W.cell? ⟨w.heap.size, 6, none⟩ = some (.int .i64 (mc)) := by rw [← hW]; simp [go_sem, setCell_drewN]
  have c7 : W.cell? ⟨w.heap.size, 7, none⟩ = some (.int .i64 (f)) := by rw [← hW]; simp [go_sem, setCell_drewN]
  have r0 : W.cell? ⟨w.heap.size + 1, 0, none⟩ = some (.int .i64 0) := by rw [← hW]; simp [go_sem, setCell_drewN]
  have r1 : W.cell? ⟨w.heap.size + 1, 1, none⟩ = some (.int .i64 0) := by rw [← hW]; simp [go_sem, setCell_drewN]
  have r2 : W.cell? ⟨w.heap.size + 1, 2, none⟩ = some (.int .i64 0) := by rw [← hW]; simp [go_sem, setCell_drewN]
  have r3 : W.cell? ⟨w.heap.size + 1, 3, none⟩ = some (.int .i64 0) := by rw [← hW]; simp [go_sem, setCell_drewN]
  have r4 : W.cell? ⟨w.heap.size + 1, 4, none⟩ = some (.int .i64 0) := by rw [← hW]; simp [go_sem, setCell_drewN]
  have r5 : W.cell? ⟨w.heap.size + 1, 5, none⟩ = some (.int .i64 0) := by rw [← hW]; simp [go_sem, setCell_drewN]
  have r6 : W.cell? ⟨w.heap.size + 1, 6, none⟩ = some (.int .i64 0) := by rw [← hW]; simp [go_sem, setCell_drewN]
  have r7 : W.cell? ⟨w.heap.size + 1, 7, none⟩ = some (.int .i64 0) := by rw [← hW]; simp [go_sem, setCell_drewN]
  have fz : ∀ k, W.frozen? ⟨w.heap.size + 1, k, none⟩ = false := by intro k; rw [← hW]; simp [go_sem, setCell_drewN]
  have hb : Below w.heap.size w W := by rw [← hW]; exact (by repeat (first | with_reducible refine Below.setCell ?_ (by simp) _ | with_reducible refine below_drewN ?_ _ | with_reducible refine Below.alloc ?_ (by simp) _ | with_reducible exact Below.refl _ _))
  clear hW
  go_wp2
  refine bodyPost_ret (v := .tuple #[S (y + 1) 1 1 0 0 0 mc f, .bool true]) ?_ rfl ⟨rfl, ?_⟩
  · simp [results, Ybad.results6, go_sem, r0, r1, r2, r3, r4, r5, r6, r7]
  · repeat (with_reducible refine Below.setCell ?_ (by simp) _)
    exact hb

set_option maxHeartbeats 1000000 in
theorem add_H (y mo d mc f : Int) (w : World) (ht : Tab w) (y0 : 0 ≤ y) (m0 : 1 ≤ mo) (m1 : mo ≤ 12) (d0 : 1 ≤ d) (d1 : d ≤ dimN mo y) (d2 : dimN mo y ≤ d) (m2 : 12 ≤ mo) (y1 : 9999 ≤ y) (y2 : y ≤ 9999) :
    Calls Ybad.prog 6 #[S y mo d 23 59 59 mc f] w fun e w' => e = R 0 0 0 0 0 0 0 0 false ∧ Below w.heap.size w w' := by
  have dr := dim_range mo y
  have em : (mo == 0) = false := by simp; omega
  have ed : (d == 0) = false := by simp; omega
  go_enter Ybad.func6, Ybad.ntmps6
  go_wp2
  go_quiet ((go_at_call 10; exact Calls.quiet_of_same (days_any _ _ _ (by omega) (by omega) (by omega) (ht.below (by repeat (first | with_reducible refine Below.setCell ?_ (by simp) _ | with_reducible refine below_drewN ?_ _ | with_reducible refine Below.alloc ?_ (by simp) _ | with_reducible exact Below.refl _ _))))))
  go_wp2
  go_quiet ((go_at_call 10; exact Calls.quiet_of_same (days_any _ _ _ (by omega) (by omega) (by omega) (ht.below (by repeat (first | with_reducible refine Below.setCell ?_ (by simp) _ | with_reducible refine below_drewN ?_ _ | with_reducible refine Below.alloc ?_ (by simp) _ | with_reducible exact Below.refl _ _))))))
  go_wp2
  refine bodyPost_ret (v := .tuple #[S 0 0 0 0 0 0 0 0, .bool false]) ?_ rfl ⟨rfl, ?_⟩
  · simp [results, Ybad.results6, go_sem]
  · exact (by repeat (first | with_reducible refine Below.setCell ?_ (by simp) _ | with_reducible refine below_drewN ?_ _ | with_reducible refine Below.alloc ?_ (by simp) _ | with_reducible exact Below.refl _ _))

end Go.Proofs.YbulkawaDoor.Cal
