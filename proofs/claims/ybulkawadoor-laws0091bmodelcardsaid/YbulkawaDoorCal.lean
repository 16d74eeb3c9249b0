/-
  The calendar: the plain functions, and the contracts of zzs0091bleap, isLeapYear, zzs0091bdim, daysIn.
-/
import Derived.Test.YbulkawaDoorRows
import Derived.WalkKit
import Derived.OpenShut
import Derived.Below
import Derived.Deep.QuietTactic
import Derived.BigQuiet
namespace Go.Proofs.YbulkawaDoor.Cal
open Go.RowKit
set_option linter.unusedVariables false

def leapB (y : Int) : Bool := !(y == 0) && (y % 4 == 0) && (!(y % 100 == 0) || (y % 400 == 0))
def dimN (m y : Int) : Int := if m = 2 then (if leapB y then 29 else 28) else if m = 4 ∨ m = 6 ∨ m = 9 ∨ m = 11 then 30 else 31

theorem dim_range (m y : Int) : 28 ≤ dimN m y ∧ dimN m y ≤ 31 := by
  unfold dimN; split <;> split <;> omega

theorem leap_w0 (y : Int) (h : y = 0) : leapB y = false := by subst h; rfl
theorem leap_w1 (y : Int) (h : y ≠ 0) (h4 : y % 4 ≠ 0) : leapB y = false := by
  unfold leapB; simp [h, h4]
theorem leap_w2 (y : Int) (h : y ≠ 0) (h4 : y % 4 = 0) (h100 : y % 100 ≠ 0) : leapB y = true := by
  unfold leapB; simp [h, h4, h100]
theorem leap_w3 (y : Int) (h : y ≠ 0) (h4 : y % 4 = 0) (_ : y % 100 = 0) (h400 : y % 400 = 0) : leapB y = true := by
  unfold leapB; simp [h, h4, h400]
theorem leap_w4 (y : Int) (h : y ≠ 0) (h4 : y % 4 = 0) (h100 : y % 100 = 0) (h400 : y % 400 ≠ 0) : leapB y = false := by
  unfold leapB; simp [h, h4, h100, h400]

set_option maxHeartbeats 400000 in
theorem leap_any (y : Int) (w : World) (h0 : 0 ≤ y) : Calls Ybad.prog 11 #[.int .i64 y] w fun e w' => e = .returned (.bool (leapB y)) ∧ w' = w := by
  by_cases h : y = 0
  · rw [leap_w0 y h]
    subst h
    go_enter Ybad.func11, Ybad.ntmps11
    go_wp2
    go_ret
    exact ⟨rfl, rfl⟩
  have e0 : (y != 0) = true := by simp [h]
  by_cases h4 : y % 4 = 0
  · have e4 : (y % 4 == 0) = true := by simp [h4]
    by_cases h100 : y % 100 = 0
    · have e100 : (y % 100 != 0) = false := by simp [h100]
      by_cases h400 : y % 400 = 0
      · have e400 : (y % 400 == 0) = true := by simp [h400]
        rw [leap_w3 y h h4 h100 h400]
        clear h h4 h100 h400
        go_enter Ybad.func11, Ybad.ntmps11
        go_wp2
        go_ret
        exact ⟨rfl, rfl⟩
      · have e400 : (y % 400 == 0) = false := by simp [h400]
        rw [leap_w4 y h h4 h100 h400]
        clear h h4 h100 h400
        go_enter Ybad.func11, Ybad.ntmps11
        go_wp2
        go_ret
        exact ⟨rfl, rfl⟩
    · have e100 : (y % 100 != 0) = true := by simp [h100]
      rw [leap_w2 y h h4 h100]
      clear h h4 h100
      go_enter Ybad.func11, Ybad.ntmps11
      go_wp2
      go_ret
      exact ⟨rfl, rfl⟩
  · have e4 : (y % 4 == 0) = false := by simp [h4]
    rw [leap_w1 y h h4]
    clear h h4
    go_enter Ybad.func11, Ybad.ntmps11
    go_wp2
    go_ret
    exact ⟨rfl, rfl⟩
set_option maxHeartbeats 400000 in
theorem isLeap_any (y : Int) (w : World) (h0 : 0 ≤ y) : Calls Ybad.prog 12 #[.int .i64 y] w fun e w' => e = .returned (.bool (leapB y)) ∧ w' = w := by
  by_cases h : y = 0
  · rw [leap_w0 y h]
    subst h
    go_enter Ybad.func12, Ybad.ntmps12
    go_wp2
    go_ret
    exact ⟨rfl, rfl⟩
  have e0 : (y != 0) = true := by simp [h]
  by_cases h4 : y % 4 = 0
  · have e4 : (y % 4 == 0) = true := by simp [h4]
    by_cases h100 : y % 100 = 0
    · have e100 : (y % 100 != 0) = false := by simp [h100]
      by_cases h400 : y % 400 = 0
      · have e400 : (y % 400 == 0) = true := by simp [h400]
        rw [leap_w3 y h h4 h100 h400]
        clear h h4 h100 h400
        go_enter Ybad.func12, Ybad.ntmps12
        go_wp2
        go_ret
        exact ⟨rfl, rfl⟩
      · have e400 : (y % 400 == 0) = false := by simp [h400]
        rw [leap_w4 y h h4 h100 h400]
        clear h h4 h100 h400
        go_enter Ybad.func12, Ybad.ntmps12
        go_wp2
        go_ret
        exact ⟨rfl, rfl⟩
    · have e100 : (y % 100 != 0) = true := by simp [h100]
      rw [leap_w2 y h h4 h100]
      clear h h4 h100
      go_enter Ybad.func12, Ybad.ntmps12
      go_wp2
      go_ret
      exact ⟨rfl, rfl⟩
  · have e4 : (y % 4 == 0) = false := by simp [h4]
    rw [leap_w1 y h h4]
    clear h h4
    go_enter Ybad.func12, Ybad.ntmps12
    go_wp2
    go_ret
    exact ⟨rfl, rfl⟩

theorem dim_2 (y : Int) (h : leapB y = true) : dimN 2 y = 29 := by simp [dimN, h]
theorem dim_2' (y : Int) (h : leapB y = false) : dimN 2 y = 28 := by simp [dimN, h]
theorem dim_30 (m y : Int) (h : m = 4 ∨ m = 6 ∨ m = 9 ∨ m = 11) : dimN m y = 30 := by
  unfold dimN; rw [if_neg (by omega), if_pos h]
theorem dim_31 (m y : Int) (h2 : m ≠ 2) (h : ¬ (m = 4 ∨ m = 6 ∨ m = 9 ∨ m = 11)) : dimN m y = 31 := by
  unfold dimN; rw [if_neg h2, if_neg h]

set_option maxHeartbeats 400000 in
theorem dim_any (m y : Int) (w : World) (h0 : 0 ≤ y) : Calls Ybad.prog 9 #[.int .i64 m, .int .i64 y] w fun e w' => e = .returned (.int .i64 (dimN m y)) ∧ w' = w := by
  by_cases h2 : m = 2
  · subst h2
    cases hl : leapB y
    · rw [dim_2' y hl]
      have q := leap_any y w h0
      rw [hl] at q
      clear hl
      go_enter Ybad.func9, Ybad.ntmps9
      go_wp2_with (go_at_call 11; refine q.mono ?_; rintro e w' ⟨rfl, rfl⟩)
      go_ret
      exact ⟨rfl, rfl⟩
    · rw [dim_2 y hl]
      have q := leap_any y w h0
      rw [hl] at q
      clear hl
      go_enter Ybad.func9, Ybad.ntmps9
      go_wp2_with (go_at_call 11; refine q.mono ?_; rintro e w' ⟨rfl, rfl⟩)
      go_ret
      exact ⟨rfl, rfl⟩
  by_cases h : m = 4 ∨ m = 6 ∨ m = 9 ∨ m = 11
  · rw [dim_30 m y h]
    rcases h with rfl | rfl | rfl | rfl
    all_goals
      go_enter Ybad.func9, Ybad.ntmps9
      go_wp2
      go_ret
      exact ⟨rfl, rfl⟩
  · rw [dim_31 m y h2 h]
    have e2 : (m == 2) = false := by simp [h2]
    have e4 : (m == 4) = false := by simp; omega
    have e6 : (m == 6) = false := by simp; omega
    have e9 : (m == 9) = false := by simp; omega
    have e11 : (m == 11) = false := by simp; omega
    clear h2 h
    go_enter Ybad.func9, Ybad.ntmps9
    go_wp2
    go_ret
    exact ⟨rfl, rfl⟩

/-- The table as the walk meets it. -/
def tab : List Int := [31, 28, 31, 30, 31, 30, 31, 31, 30, 31, 30, 31]
def Tab (w : World) : Prop := ∀ i, i < 12 → w.cell? ⟨0, i, none⟩ = some (.int .i64 (tab.getD i 0))

theorem tab_dim (m : Nat) (y : Int) (h1 : 1 ≤ m) (h12 : m ≤ 12) (h : ¬ (m = 2 ∧ leapB y = true)) : tab.getD (m - 1) 0 = dimN m y := by
  have : m = 1 ∨ m = 2 ∨ m = 3 ∨ m = 4 ∨ m = 5 ∨ m = 6 ∨ m = 7 ∨ m = 8 ∨ m = 9 ∨ m = 10 ∨ m = 11 ∨ m = 12 := by omega
  rcases this with rfl | rfl | rfl | rfl | rfl | rfl | rfl | rfl | rfl | rfl | rfl | rfl
  all_goals first | rfl | (have hl : leapB y = false := by simpa using h
                           exact (dim_2' y hl).symm)

set_option maxHeartbeats 400000 in
theorem days_any (m y : Int) (w : World) (h0 : 0 ≤ y) (h1 : 1 ≤ m) (h12 : m ≤ 12) (ht : Tab w) : Calls Ybad.prog 10 #[.int .i64 m, .int .i64 y] w fun e w' => e = .returned (.int .i64 (dimN m y)) ∧ w' = w := by
  obtain ⟨n, rfl⟩ := Int.eq_ofNat_of_zero_le (show 0 ≤ m by omega)
  by_cases h2 : n = 2 ∧ leapB y = true
  · obtain ⟨rfl, hl⟩ := h2
    have e := dim_2 y hl
    have q := isLeap_any y w h0
    rw [hl] at q
    show Calls Ybad.prog 10 #[.int .i64 2, .int .i64 y] w fun e w' => e = .returned (.int .i64 (dimN 2 y)) ∧ w' = w
    rw [e]
    clear hl e
    go_enter Ybad.func10, Ybad.ntmps10
    go_wp2_with (go_at_call 12; refine q.mono ?_; rintro e w' ⟨rfl, rfl⟩)
    go_ret
    exact ⟨rfl, rfl⟩
  · have e := tab_dim n y (by omega) (by omega) h2
    have hc := ht (n - 1) (by omega)
    rw [e] at hc
    by_cases n2 : n = 2
    · subst n2
      have hl : leapB y = false := by simpa using h2
      have q := isLeap_any y w h0
      rw [hl] at q
      clear hl e h2
      generalize dimN ((2 : Nat) : Int) y = D at *
      go_enter Ybad.func10, Ybad.ntmps10
      go_wp2_with (go_at_call 12; refine q.mono ?_; rintro e w' ⟨rfl, rfl⟩)
      go_ret
      exact ⟨rfl, rfl⟩
    · have e2 : (((n : Nat) : Int) == 2) = false := by simp; omega
      clear h2 e n2
      generalize dimN n y = D at *
      go_enter Ybad.func10, Ybad.ntmps10
      go_wp2
      go_ret
      exact ⟨rfl, rfl⟩
end Go.Proofs.YbulkawaDoor.Cal
