/-
  The digraph's small methods, by contracts.
-/
import Derived.Test.YbulkaxcDoorRows
import Derived.Test.YbulkaxcDoorMem
import Derived.Deep.QuietTactic
import Derived.BigQuiet
namespace Go.Proofs.YbulkaxcDoor.Small
open Go.RowKit Go.Proofs.YbulkaxcDoor.Mem
set_option linter.unusedVariables false

set_option maxHeartbeats 400000 in
theorem txnPlaces_any (gd : Nat) (n : Int) (al : Option Addr) (L cl : Nat) (w : World) (hn : w.cell? ⟨gd, 1, none⟩ = some (.int .i32 n)) (hl : w.cell? ⟨gd, 2, none⟩ = some (.slice al L cl)) (hL : L ≤ 100) (h1 : 0 ≤ n * (L : Int)) (h2 : n * (L : Int) ≤ 100000) :
    Calls Ybad.prog 25 #[.pointer (some ⟨gd, 0, none⟩)] w fun e w' => e = .returned (.int .i32 (n * (L : Int))) ∧ ∃ q, w' = w.drewN q := by
  go_enter Ybad.func25, Ybad.ntmps25
  go_wp2
  go_quiet (fail)
  go_wp2
  go_ret
  exact ⟨rfl, _, rfl⟩

set_option maxHeartbeats 400000 in
theorem layer_any (gd : Nat) (p : Int) (al : Option Addr) (L cl : Nat) (w : World) (hl : w.cell? ⟨gd, 2, none⟩ = some (.slice al L cl)) (hL : L ≤ 100) (h0 : 1 ≤ L) (h1 : 0 ≤ p) (h2 : p ≤ 100000) :
    Calls Ybad.prog 19 #[.pointer (some ⟨gd, 0, none⟩), .int .i32 p] w fun e w' => e = .returned (.int .i32 (p % (L : Int))) ∧ w' = w := by
  go_enter Ybad.func19, Ybad.ntmps19
  go_wp2
  go_ret
  exact ⟨rfl, rfl⟩

set_option maxHeartbeats 400000 in
theorem isPoint_any (gd : Nat) (p n : Int) (al : Option Addr) (L cl : Nat) (w : World) (hn : w.cell? ⟨gd, 1, none⟩ = some (.int .i32 n)) (hl : w.cell? ⟨gd, 2, none⟩ = some (.slice al L cl)) (hL : L ≤ 100) (h1 : 0 ≤ n * (L : Int)) (h2 : n * (L : Int) ≤ 100000) :
    Calls Ybad.prog 18 #[.pointer (some ⟨gd, 0, none⟩), .int .i32 p] w fun e w' => e = .returned (.bool (decide (n * (L : Int) ≤ p))) ∧ ∃ q, w' = w.drewN q := by
  go_enter Ybad.func18, Ybad.ntmps18
  go_wp2_with (go_at_call 25; refine (txnPlaces_any _ _ _ _ _ _ hn hl hL h1 h2).mono ?_; rintro e w' ⟨rfl, q, rfl⟩)
  go_ret
  exact ⟨rfl, _, rfl⟩

set_option maxHeartbeats 400000 in
theorem from_any (gd ga gh gs m T ca ch cs : Nat) (p i j : Int) (w : World) (ha : w.cell? ⟨gd, 4, none⟩ = some (.slice (some ⟨ga, 0, none⟩) m m)) (hh : w.cell? ⟨gd, 5, none⟩ = some (.slice (some ⟨gh, 0, none⟩) m m)) (hs : w.cell? ⟨gd, 6, none⟩ = some (.slice (some ⟨gs, 0, none⟩) (T + 1) cs))
    (hT : T ≤ 100000) (hm : m ≤ 100000) (p0 : 0 ≤ p) (pT : p < T) (hi : w.cell? ⟨gs, p.toNat, none⟩ = some (.int .i32 i)) (hj : w.cell? ⟨gs, p.toNat + 1, none⟩ = some (.int .i32 j)) (i0 : 0 ≤ i) (ij : i ≤ j) (jm : j ≤ m) :
    Calls Ybad.prog 17 #[.pointer (some ⟨gd, 0, none⟩), .int .i32 p] w fun e w' => ∃ va o c, e = .returned (.tuple #[va, .slice (some ⟨gh, o, none⟩) (j - i).toNat c]) ∧ (i < j → o = i.toNat) ∧ ∃ q, w' = w.drewN q := by
  obtain ⟨p, rfl⟩ := Int.eq_ofNat_of_zero_le p0
  obtain ⟨i, rfl⟩ := Int.eq_ofNat_of_zero_le i0
  obtain ⟨j, rfl⟩ := Int.eq_ofNat_of_zero_le (show 0 ≤ j by omega)
  simp only [Int.toNat_natCast] at hi hj
  by_cases hc : i = m
  · obtain rfl : j = i := by omega
    subst hc
    have e : ((j : Int) - (j : Int)).toNat = 0 := by omega
    rw [e]
    go_enter Ybad.func17, Ybad.ntmps17
    go_wp2
    go_quiet (fail)
    go_wp2
    generalize hW : World.drewN _ _ = W
    have ha' : W.cell? ⟨gd, 4, none⟩ = some (.slice (some ⟨ga, 0, none⟩) j j) := by rw [← hW]; exact ha
    have hh' : W.cell? ⟨gd, 5, none⟩ = some (.slice (some ⟨gh, 0, none⟩) j j) := by rw [← hW]; exact hh
    have HW := hide hW
    clear hW ha hh hs hi hj
    go_quiet (fail)
    go_wp2
    go_ret2
    refine ⟨_, _, _, rfl, ?_, ?_⟩
    · intro h; omega
    · exact ⟨_, by rw [← HW.out, World.drewN_drewN]⟩
  · have e : ((j : Int) - (i : Int)).toNat = j - i := by omega
    rw [e]
    go_enter Ybad.func17, Ybad.ntmps17
    go_wp2
    go_quiet (fail)
    go_wp2
    generalize hW : World.drewN _ _ = W
    have ha' : W.cell? ⟨gd, 4, none⟩ = some (.slice (some ⟨ga, 0, none⟩) m m) := by rw [← hW]; exact ha
    have hh' : W.cell? ⟨gd, 5, none⟩ = some (.slice (some ⟨gh, 0, none⟩) m m) := by rw [← hW]; exact hh
    have HW := hide hW
    clear hW ha hh hs hi hj
    go_quiet (fail)
    go_wp2
    go_ret2
    refine ⟨_, _, _, rfl, ?_, ?_⟩
    · intro h; omega
    · exact ⟨_, by rw [← HW.out, World.drewN_drewN]⟩

set_option maxHeartbeats 400000 in
theorem place_any (gd : Nat) (u l : Int) (al : Option Addr) (L cl : Nat) (w : World) (hl : w.cell? ⟨gd, 2, none⟩ = some (.slice al L cl)) (hL : L ≤ 100) (h1 : 0 ≤ u * (L : Int)) (h2 : u * (L : Int) ≤ 100000) (h3 : 0 ≤ l) (h4 : l ≤ 1000) :
    Calls Ybad.prog 16 #[.pointer (some ⟨gd, 0, none⟩), .int .i32 u, .int .i32 l] w fun e w' => e = .returned (.int .i32 (u * (L : Int) + l)) ∧ w' = w := by
  go_enter Ybad.func16, Ybad.ntmps16
  go_wp2
  go_ret
  exact ⟨rfl, rfl⟩

set_option maxHeartbeats 400000 in
theorem places_any (gd : Nat) (a6 : Option Addr) (S cs : Nat) (w : World) (hs : w.cell? ⟨gd, 6, none⟩ = some (.slice a6 S cs)) (hS : S ≤ 100000) (hS1 : 1 ≤ S) :
    Calls Ybad.prog 27 #[.pointer (some ⟨gd, 0, none⟩)] w fun e w' => e = .returned (.int .i32 ((S : Int) - 1)) ∧ w' = w := by
  go_enter Ybad.func27, Ybad.ntmps27
  go_wp2
  go_ret
  exact ⟨rfl, rfl⟩
end Go.Proofs.YbulkaxcDoor.Small
