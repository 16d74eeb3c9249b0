/-
  zzs0091bmodel, by contracts: one a way.
-/
import Derived.Test.YbulkawaDoorAdd
namespace Go.Proofs.YbulkawaDoor.Cal
open Go.RowKit
set_option linter.unusedVariables false
set_option linter.unusedSimpArgs false

set_option maxHeartbeats 1000000 in
theorem mod_A (y mo d h mi s mc f : Int) (w : World) (h0 : 0 ≤ h) (h1 : h ≤ 23) (m0 : 0 ≤ mi) (m1 : mi ≤ 59) (s0 : 0 ≤ s) (s1 : s ≤ 59) (t1 : h * 3600 + mi * 60 + s + 1 < 86400) :
    Calls Ybad.prog 7 #[S y mo d h mi s mc f] w fun e w' => e = R y mo d ((h * 3600 + mi * 60 + s + 1) / 3600) (((h * 3600 + mi * 60 + s + 1) / 60) % 60) ((h * 3600 + mi * 60 + s + 1) % 60) mc f true ∧ Below w.heap.size w w' := by
  go_enter Ybad.func7, Ybad.ntmps7
  go_wp2
  refine bodyPost_ret (v := .tuple #[S y mo d ((h * 3600 + mi * 60 + s + 1) / 3600) (((h * 3600 + mi * 60 + s + 1) / 60) % 60) ((h * 3600 + mi * 60 + s + 1) % 60) mc f, .bool true]) ?_ rfl ⟨rfl, ?_⟩
  · simp [results, Ybad.results7, go_sem]
  · exact (by repeat (first | with_reducible refine Below.setCell ?_ (by simp) _ | with_reducible refine below_drewN ?_ _ | with_reducible refine Below.alloc ?_ (by simp) _ | with_reducible exact Below.refl _ _))

set_option maxHeartbeats 1000000 in
theorem mod_D1 (y d mc f : Int) (w : World) :
    Calls Ybad.prog 7 #[S y 0 d 23 59 59 mc f] w fun e w' => e = R 0 0 0 0 0 0 0 0 false ∧ Below w.heap.size w w' := by
  go_enter Ybad.func7, Ybad.ntmps7
  go_wp2
  go_quiet (fail)
  go_wp2
  refine bodyPost_ret (v := .tuple #[S 0 0 0 0 0 0 0 0, .bool false]) ?_ rfl ⟨rfl, ?_⟩
  · simp [results, Ybad.results7, go_sem]
  · exact (by repeat (first | with_reducible refine Below.setCell ?_ (by simp) _ | with_reducible refine below_drewN ?_ _ | with_reducible refine Below.alloc ?_ (by simp) _ | with_reducible exact Below.refl _ _))

set_option maxHeartbeats 1000000 in
theorem mod_D2 (y mo mc f : Int) (w : World) (m0 : 1 ≤ mo) :
    Calls Ybad.prog 7 #[S y mo 0 23 59 59 mc f] w fun e w' => e = R 0 0 0 0 0 0 0 0 false ∧ Below w.heap.size w w' := by
  have em : decide (mo < 1) = false := by simp; omega
  go_enter Ybad.func7, Ybad.ntmps7
  go_wp2
  go_quiet (fail)
  go_wp2
  refine bodyPost_ret (v := .tuple #[S 0 0 0 0 0 0 0 0, .bool false]) ?_ rfl ⟨rfl, ?_⟩
  · simp [results, Ybad.results7, go_sem]
  · exact (by repeat (first | with_reducible refine Below.setCell ?_ (by simp) _ | with_reducible refine below_drewN ?_ _ | with_reducible refine Below.alloc ?_ (by simp) _ | with_reducible exact Below.refl _ _))

set_option maxHeartbeats 1000000 in
theorem mod_D3 (y mo d mc f : Int) (w : World) (y0 : 0 ≤ y) (m0 : 1 ≤ mo) (m1 : mo ≤ 12) (d0 : 1 ≤ d) (d1 : dimN mo y < d) :
    Calls Ybad.prog 7 #[S y mo d 23 59 59 mc f] w fun e w' => e = R 0 0 0 0 0 0 0 0 false ∧ Below w.heap.size w w' := by
  have dr := dim_range mo y
  have em : decide (mo < 1) = false := by simp; omega
  have ed : decide (d < 1) = false := by simp; omega
  go_enter Ybad.func7, Ybad.ntmps7
  go_wp2
  go_quiet ((go_at_call 9; exact Calls.quiet_of_same (dim_any _ _ _ (by omega))))
  go_wp2
  refine bodyPost_ret (v := .tuple #[S 0 0 0 0 0 0 0 0, .bool false]) ?_ rfl ⟨rfl, ?_⟩
  · simp [results, Ybad.results7, go_sem]
  · exact (by repeat (first | with_reducible refine Below.setCell ?_ (by simp) _ | with_reducible refine below_drewN ?_ _ | with_reducible refine Below.alloc ?_ (by simp) _ | with_reducible exact Below.refl _ _))

set_option maxHeartbeats 1000000 in
theorem mod_E (y mo d mc f : Int) (w : World) (y0 : 0 ≤ y) (m0 : 1 ≤ mo) (m1 : mo ≤ 12) (d0 : 1 ≤ d) (d1 : d < dimN mo y) :
    Calls Ybad.prog 7 #[S y mo d 23 59 59 mc f] w fun e w' => e = R y mo (d + 1) 0 0 0 mc f true ∧ Below w.heap.size w w' := by
  have dr := dim_range mo y
  have em : decide (mo < 1) = false := by simp; omega
  have ed : decide (d < 1) = false := by simp; omega
  go_enter Ybad.func7, Ybad.ntmps7
  go_wp2
  go_quiet ((go_at_call 9; exact Calls.quiet_of_same (dim_any _ _ _ (by omega))))
  go_wp2
  generalize hW : World.drewN _ _ = W
  have c0 : W.cell? ⟨w.heap.size, 0, none⟩ = some (.int .i64 y) := by rw [← hW]; simp [go_sem]
  have c1 : W.cell? ⟨w.heap.size, 1, none⟩ = some (.int .i64 mo) := by rw [← hW]; simp [go_sem]
  have c2 : W.cell? ⟨w.heap.size, 2, none⟩ = some (.int .i64 d) := by rw [← hW]; simp [go_sem]
  have c3 : W.cell? ⟨w.heap.size, 3, none⟩ = some (.int .i64 23) := by rw [← hW]; simp [go_sem]
  have c4 : W.cell? ⟨w.heap.size, 4, none⟩ = some (.int .i64 59) := by rw [← hW]; simp [go_sem]
  have c5 : W.cell? ⟨w.heap.size, 5, none⟩ = some (.int .i64 59) := by rw [← hW]; simp [go_sem]
  have c6 : W.cell? ⟨w.heap.size, 6, none⟩ = some (.int .i64 mc) := by rw [← hW]; simp [go_sem]
  have c7 : W.cell? ⟨w.heap.size, 7, none⟩ = some (.int .i64 f) := by rw [← hW]; simp [go_sem]
  have r0 : W.cell? ⟨w.heap.size + 1, 0, none⟩ = some (.int .i64 0) := by rw [← hW]; simp [go_sem]
  have r1 : W.cell? ⟨w.heap.size + 1, 1, none⟩ = some (.int .i64 0) := by rw [← hW]; simp [go_sem]
  have r2 : W.cell? ⟨w.heap.size + 1, 2, none⟩ = some (.int .i64 0) := by rw [← hW]; simp [go_sem]
  have r3 : W.cell? ⟨w.heap.size + 1, 3, none⟩ = some (.int .i64 0) := by rw [← hW]; simp [go_sem]
  have r4 : W.cell? ⟨w.heap.size + 1, 4, none⟩ = some (.int .i64 0) := by rw [← hW]; simp [go_sem]
  have r5 : W.cell? ⟨w.heap.size + 1, 5, none⟩ = some (.int .i64 0) := by rw [← hW]; simp [go_sem]
  have r6 : W.cell? ⟨w.heap.size + 1, 6, none⟩ = some (.int .i64 0) := by rw [← hW]; simp [go_sem]
  have r7 : W.cell? ⟨w.heap.size + 1, 7, none⟩ = some (.int .i64 0) := by rw [← hW]; simp [go_sem]
  have fz : ∀ k, W.frozen? ⟨w.heap.size + 1, k, none⟩ = false := by intro k; rw [← hW]; simp [go_sem]
  have hb : Below w.heap.size w W := by rw [← hW]; exact (by repeat (first | with_reducible refine Below.setCell ?_ (by simp) _ | with_reducible refine below_drewN ?_ _ | with_reducible refine Below.alloc ?_ (by simp) _ | with_reducible exact Below.refl _ _))
  clear hW
  go_quiet ((go_at_call 9; exact Calls.quiet_of_same (dim_any _ _ _ (by omega))))
  go_wp2
  refine bodyPost_ret (v := .tuple #[S y mo (d + 1) 0 0 0 mc f, .bool true]) ?_ rfl ⟨rfl, ?_⟩
  · simp [results, Ybad.results7, go_sem, r0, r1, r2, r3, r4, r5, r6, r7]
  · repeat (first | with_reducible refine Below.setCell ?_ (by simp) _ | with_reducible refine below_drewN ?_ _)
    exact hb

set_option maxHeartbeats 1000000 in
theorem mod_F (y mo d mc f : Int) (w : World) (y0 : 0 ≤ y) (m0 : 1 ≤ mo) (m1 : mo ≤ 12) (d0 : 1 ≤ d) (d1 : d ≤ dimN mo y) (d2 : dimN mo y ≤ d) (m2 : mo < 12) :
    Calls Ybad.prog 7 #[S y mo d 23 59 59 mc f] w fun e w' => e = R y (mo + 1) 1 0 0 0 mc f true ∧ Below w.heap.size w w' := by
  have dr := dim_range mo y
  have em : decide (mo < 1) = false := by simp; omega
  have ed : decide (d < 1) = false := by simp; omega
  go_enter Ybad.func7, Ybad.ntmps7
  go_wp2
  go_quiet ((go_at_call 9; exact Calls.quiet_of_same (dim_any _ _ _ (by omega))))
  go_wp2
  generalize hW : World.drewN _ _ = W
  have c0 : W.cell? ⟨w.heap.size, 0, none⟩ = some (.int .i64 y) := by rw [← hW]; simp [go_sem]
  have c1 : W.cell? ⟨w.heap.size, 1, none⟩ = some (.int .i64 mo) := by rw [← hW]; simp [go_sem]
  have c2 : W.cell? ⟨w.heap.size, 2, none⟩ = some (.int .i64 d) := by rw [← hW]; simp [go_sem]
  have c3 : W.cell? ⟨w.heap.size, 3, none⟩ = some (.int .i64 23) := by rw [← hW]; simp [go_sem]
  have c4 : W.cell? ⟨w.heap.size, 4, none⟩ = some (.int .i64 59) := by rw [← hW]; simp [go_sem]
  have c5 : W.cell? ⟨w.heap.size, 5, none⟩ = some (.int .i64 59) := by rw [← hW]; simp [go_sem]
  have c6 : W.cell? ⟨w.heap.size, 6, none⟩ = some (.int .i64 mc) := by rw [← hW]; simp [go_sem]
  have c7 : W.cell? ⟨w.heap.size, 7, none⟩ = some (.int .i64 f) := by rw [← hW]; simp [go_sem]
  have r0 : W.cell? ⟨w.heap.size + 1, 0, none⟩ = some (.int .i64 0) := by rw [← hW]; simp [go_sem]
  have r1 : W.cell? ⟨w.heap.size + 1, 1, none⟩ = some (.int .i64 0) := by rw [← hW]; simp [go_sem]
  have r2 : W.cell? ⟨w.heap.size + 1, 2, none⟩ = some (.int .i64 0) := by rw [← hW]; simp [go_sem]
  have r3 : W.cell? ⟨w.heap.size + 1, 3, none⟩ = some (.int .i64 0) := by rw [← hW]; simp [go_sem]
  have r4 : W.cell? ⟨w.heap.size + 1, 4, none⟩ = some (.int .i64 0) := by rw [← hW]; simp [go_sem]
  have r5 : W.cell? ⟨w.heap.size + 1, 5, none⟩ = some (.int .i64 0) := by rw [← hW]; simp [go_sem]
  have r6 : W.cell? ⟨w.heap.size + 1, 6, none⟩ = some (.int .i64 0) := by rw [← hW]; simp [go_sem]
  have r7 : W.cell? ⟨w.heap.size + 1, 7, none⟩ = some (.int .i64 0) := by rw [← hW]; simp [go_sem]
  have fz : ∀ k, W.frozen? ⟨w.heap.size + 1, k, none⟩ = false := by intro k; rw [← hW]; simp [go_sem]
  have hb : Below w.heap.size w W := by rw [← hW]; exact (by repeat (first | with_reducible refine Below.setCell ?_ (by simp) _ | with_reducible refine below_drewN ?_ _ | with_reducible refine Below.alloc ?_ (by simp) _ | with_reducible exact Below.refl _ _))
  clear hW
  go_quiet ((go_at_call 9; exact Calls.quiet_of_same (dim_any _ _ _ (by omega))))
  go_wp2
  refine bodyPost_ret (v := .tuple #[S y (mo + 1) 1 0 0 0 mc f, .bool true]) ?_ rfl ⟨rfl, ?_⟩
  · simp [results, Ybad.results7, go_sem, r0, r1, r2, r3, r4, r5, r6, r7]
  · repeat (first | with_reducible refine Below.setCell ?_ (by simp) _ | with_reducible refine below_drewN ?_ _)
    exact hb

set_option maxHeartbeats 1000000 in
theorem mod_G (y mo d mc f : Int) (w : World) (y0 : 0 ≤ y) (m0 : 1 ≤ mo) (m1 : mo ≤ 12) (d0 : 1 ≤ d) (d1 : d ≤ dimN mo y) (d2 : dimN mo y ≤ d) (m2 : 12 ≤ mo) (y1 : y < 9999) :
    Calls Ybad.prog 7 #[S y mo d 23 59 59 mc f] w fun e w' => e = R (y + 1) 1 1 0 0 0 mc f true ∧ Below w.heap.size w w' := by
  have dr := dim_range mo y
  have em : decide (mo < 1) = false := by simp; omega
  have ed : decide (d < 1) = false := by simp; omega
  go_enter Ybad.func7, Ybad.ntmps7
  go_wp2
  go_quiet ((go_at_call 9; exact Calls.quiet_of_same (dim_any _ _ _ (by omega))))
  go_wp2
  generalize hW : World.drewN _ _ = W
  have c0 : W.cell? ⟨w.heap.size, 0, none⟩ = some (.int .i64 y) := by rw [← hW]; simp [go_sem]
  have c1 : W.cell? ⟨w.heap.size, 1, none⟩ = some (.int .i64 mo) := by rw [← hW]; simp [go_sem]
  have c2 : W.cell? ⟨w.heap.size, 2, none⟩ = some (.int .i64 d) := by rw [← hW]; simp [go_sem]
  have c3 : W.cell? ⟨w.heap.size, 3, none⟩ = some (.int .i64 23) := by rw [← hW]; simp [go_sem]
  have c4 : W.cell? ⟨w.heap.size, 4, none⟩ = some (.int .i64 59) := by rw [← hW]; simp [go_sem]
  have c5 : W.cell? ⟨w.heap.size, 5, none⟩ = some (.int .i64 59) := by rw [← hW]; simp [go_sem]
  have c6 : W.cell? ⟨w.heap.size, 6, none⟩ = some (.int .i64 mc) := by rw [← hW]; simp [go_sem]
  have c7 : W.cell? ⟨w.heap.size, 7, none⟩ = some (.int .i64 f) := by rw [← hW]; simp [go_sem]
  have r0 : W.cell? ⟨w.heap.size + 1, 0, none⟩ = some (.int .i64 0) := by rw [← hW]; simp [go_sem]
  have r1 : W.cell? ⟨w.heap.size + 1, 1, none⟩ = some (.int .i64 0) := by rw [← hW]; simp [go_sem]
  have r2 : W.cell? ⟨w.heap.size + 1, 2, none⟩ = some (.int .i64 0) := by rw [← hW]; simp [go_sem]
  have r3 : W.cell? ⟨w.heap.size + 1, 3, none⟩ = some (.int .i64 0) := by rw [← hW]; simp [go_sem]
  have r4 : W.cell? ⟨w.heap.size + 1, 4, none⟩ = some (.int .i64 0) := by rw [← hW]; simp [go_sem]
  have r5 : W.cell? ⟨w.heap.size + 1, 5, none⟩ = some (.int .i64 0) := by rw [← hW]; simp [go_sem]
  have r6 : W.cell? ⟨w.heap.size + 1, 6, none⟩ = some (.int .i64 0) := by rw [← hW]; simp [go_sem]
  have r7 : W.cell? ⟨w.heap.size + 1, 7, none⟩ = some (.int .i64 0) := by rw [← hW]; simp [go_sem]
  have fz : ∀ k, W.frozen? ⟨w.heap.size + 1, k, none⟩ = false := by intro k; rw [← hW]; simp [go_sem]
  have hb : Below w.heap.size w W := by rw [← hW]; exact (by repeat (first | with_reducible refine Below.setCell ?_ (by simp) _ | with_reducible refine below_drewN ?_ _ | with_reducible refine Below.alloc ?_ (by simp) _ | with_reducible exact Below.refl _ _))
  clear hW
  go_quiet ((go_at_call 9; exact Calls.quiet_of_same (dim_any _ _ _ (by omega))))
  go_wp2
  refine bodyPost_ret (v := .tuple #[S (y + 1) 1 1 0 0 0 mc f, .bool true]) ?_ rfl ⟨rfl, ?_⟩
  · simp [results, Ybad.results7, go_sem, r0, r1, r2, r3, r4, r5, r6, r7]
  · repeat (first | with_reducible refine Below.setCell ?_ (by simp) _ | with_reducible refine below_drewN ?_ _)
    exact hb

set_option maxHeartbeats 1000000 in
theorem mod_H (y mo d mc f : Int) (w : World) (y0 : 0 ≤ y) (m0 : 1 ≤ mo) (m1 : mo ≤ 12) (d0 : 1 ≤ d) (d1 : d ≤ dimN mo y) (d2 : dimN mo y ≤ d) (m2 : 12 ≤ mo) (y1 : 9999 ≤ y) (y2 : y ≤ 9999) :
    Calls Ybad.prog 7 #[S y mo d 23 59 59 mc f] w fun e w' => e = R 0 0 0 0 0 0 0 0 false ∧ Below w.heap.size w w' := by
  have dr := dim_range mo y
  have em : decide (mo < 1) = false := by simp; omega
  have ed : decide (d < 1) = false := by simp; omega
  go_enter Ybad.func7, Ybad.ntmps7
  go_wp2
  go_quiet ((go_at_call 9; exact Calls.quiet_of_same (dim_any _ _ _ (by omega))))
  go_wp2
  generalize hW : World.drewN _ _ = W
  have c0 : W.cell? ⟨w.heap.size, 0, none⟩ = some (.int .i64 y) := by rw [← hW]; simp [go_sem]
  have c1 : W.cell? ⟨w.heap.size, 1, none⟩ = some (.int .i64 mo) := by rw [← hW]; simp [go_sem]
  have c2 : W.cell? ⟨w.heap.size, 2, none⟩ = some (.int .i64 d) := by rw [← hW]; simp [go_sem]
  have c3 : W.cell? ⟨w.heap.size, 3, none⟩ = some (.int .i64 23) := by rw [← hW]; simp [go_sem]
  have c4 : W.cell? ⟨w.heap.size, 4, none⟩ = some (.int .i64 59) := by rw [← hW]; simp [go_sem]
  have c5 : W.cell? ⟨w.heap.size, 5, none⟩ = some (.int .i64 59) := by rw [← hW]; simp [go_sem]
  have c6 : W.cell? ⟨w.heap.size, 6, none⟩ = some (.int .i64 mc) := by rw [← hW]; simp [go_sem]
  have c7 : W.cell? ⟨w.heap.size, 7, none⟩ = some (.int .i64 f) := by rw [← hW]; simp [go_sem]
  have r0 : W.cell? ⟨w.heap.size + 1, 0, none⟩ = some (.int .i64 0) := by rw [← hW]; simp [go_sem]
  have r1 : W.cell? ⟨w.heap.size + 1, 1, none⟩ = some (.int .i64 0) := by rw [← hW]; simp [go_sem]
  have r2 : W.cell? ⟨w.heap.size + 1, 2, none⟩ = some (.int .i64 0) := by rw [← hW]; simp [go_sem]
  have r3 : W.cell? ⟨w.heap.size + 1, 3, none⟩ = some (.int .i64 0) := by rw [← hW]; simp [go_sem]
  have r4 : W.cell? ⟨w.heap.size + 1, 4, none⟩ = some (.int .i64 0) := by rw [← hW]; simp [go_sem]
  have r5 : W.cell? ⟨w.heap.size + 1, 5, none⟩ = some (.int .i64 0) := by rw [← hW]; simp [go_sem]
  have r6 : W.cell? ⟨w.heap.size + 1, 6, none⟩ = some (.int .i64 0) := by rw [← hW]; simp [go_sem]
  have r7 : W.cell? ⟨w.heap.size + 1, 7, none⟩ = some (.int .i64 0) := by rw [← hW]; simp [go_sem]
  have fz : ∀ k, W.frozen? ⟨w.heap.size + 1, k, none⟩ = false := by intro k; rw [← hW]; simp [go_sem]
  have hb : Below w.heap.size w W := by rw [← hW]; exact (by repeat (first | with_reducible refine Below.setCell ?_ (by simp) _ | with_reducible refine below_drewN ?_ _ | with_reducible refine Below.alloc ?_ (by simp) _ | with_reducible exact Below.refl _ _))
  clear hW
  go_quiet ((go_at_call 9; exact Calls.quiet_of_same (dim_any _ _ _ (by omega))))
  go_wp2
  refine bodyPost_ret (v := .tuple #[S 0 0 0 0 0 0 0 0, .bool false]) ?_ rfl ⟨rfl, ?_⟩
  · simp [results, Ybad.results7, go_sem, r0, r1, r2, r3, r4, r5, r6, r7]
  · repeat (first | with_reducible refine Below.setCell ?_ (by simp) _ | with_reducible refine below_drewN ?_ _)
    exact hb

end Go.Proofs.YbulkawaDoor.Cal
