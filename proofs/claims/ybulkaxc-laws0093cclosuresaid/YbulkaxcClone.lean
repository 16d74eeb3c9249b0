/-
  slices.Clone and slices.Equal at []int32, by contracts.
-/
import Derived.Test.YbulkaxcRows
import Derived.Test.YbulkaxcMem
import Derived.Deep.QuietTactic
import Derived.BigQuiet
import Derived.WalkSpells
namespace Go.Proofs.Ybulkaxc.Clone
open Go.RowKit Go.Proofs.Ybulkaxc.Mem
set_option linter.unusedVariables false

theorem info21 : (Yba.prog.info? 21).map (fun i => (i.zero, i.size, i.bytes)) = some (some (.int .i32 0), 1, 4) := by kernel_rfl

set_option maxHeartbeats 400000 in
theorem clone_nil (w : World) (c : Nat) :
    Calls Yba.prog 5 #[.slice none 0 c] w fun e w' => e = .returned (.slice none 0 0) ∧ w' = w := by
  have hq : ∀ (w : World) (a : Option Addr) (n c n' c' : Nat), (binOp .eql 23 (.slice a n c) (.slice none n' c')).run Yba.prog w = .ok (.bool a.isNone) w := fun w a n c n' c' => Lib.run_eql_slice_nil w _ _ a n c n' c' Yba.underlying23
  go_enter Yba.func5, Yba.ntmps5
  go_wp2
  go_ret
  exact ⟨rfl, rfl⟩

theorem own_empty (w : World) : Own (w.alloc (.cells #[] 21)) w.heap.size (.slice (some ⟨w.heap.size, 0, none⟩) 0 0) [] := World.ownsRow_made w #[] 0 (Nat.le_refl _) (by decide) rfl

set_option maxHeartbeats 400000 in
theorem clone_some (w : World) (ad : Addr) (n : Nat) (l : List Int) (c : Nat) (hl : l.length ≤ 100000) (hc : Src w (.slice (some ad) n c) l) :
    Calls Yba.prog 5 #[.slice (some ad) n c] w fun e w' => ∃ v, e = .returned v ∧ Own w' w.heap.size v l ∧ Tch [] w w' := by
  have hq : ∀ (w : World) (a : Option Addr) (n c n' c' : Nat), (binOp .eql 23 (.slice a n c) (.slice none n' c')).run Yba.prog w = .ok (.bool a.isNone) w := fun w a n c n' c' => Lib.run_eql_slice_nil w _ _ a n c n' c' Yba.underlying23
  obtain ⟨i0, hi, hz0, hz1, hz2⟩ := info_parts info21
  have HC := hide hc
  clear hc
  go_enter Yba.func5, Yba.ntmps5
  go_wp2_with (at_builtin; refine wpList_app32 _ rfl (.tmp 5) (.tmp 6) 23 rfl i0 Yba.underlying23 hi hz0 hz1 hz2 rfl (own_empty w) rfl (HC.out.touch ((Tch.refl [] w).alloc _) (by simp)) (by simpa using (by omega : l.length ≤ 1000000)) (by simp) ?_; intro v' w1 hown' hgrow _)
  go_ret
  refine ⟨_, rfl, ?_, ?_⟩
  · exact hown'
  · exact ((Tch.refl [] w).alloc _).trans hgrow (fun x hx => .inr (Nat.le_of_eq (List.mem_singleton.1 hx).symm))

/-- slices.Clone: an owned copy, in new memory. -/
theorem clone_any (w : World) (v : Value) (l : List Int) (hl : l.length ≤ 100000) (hs : Src w v l) :
    Calls Yba.prog 5 #[v] w fun e w' => ∃ v', e = .returned v' ∧ Own w' w.heap.size v' l ∧ Tch [] w w' := by
  have some_case : ∀ ad n c, v = .slice (some ad) n c → Calls Yba.prog 5 #[v] w fun e w' => ∃ v', e = .returned v' ∧ Own w' w.heap.size v' l ∧ Tch [] w w' := by
    intro ad n c hv
    subst hv
    exact clone_some w ad n l c hl hs
  rcases hs with ⟨rfl, a, cap, rfl, h0⟩ | ⟨b, off, cap, rfl, h⟩
  · cases a with
    | none => exact (clone_nil w cap).mono fun e w' ⟨h1, h2⟩ => ⟨_, h1, h2 ▸ Own.nil _ _, h2 ▸ Tch.refl _ _⟩
    | some ad => exact some_case ad 0 cap rfl
  · exact some_case _ _ _ rfl

set_option maxHeartbeats 400000 in
theorem equal_some (w : World) (b1 o1 c1 b2 o2 c2 n : Nat) (l : List Int) (hn : l.length = n) (hl : l.length ≤ 100000) (h1 : ∀ i x, l[i]? = some x → w.cell? ⟨b1, o1 + i, none⟩ = some (.int .i32 x)) (h2 : ∀ i x, l[i]? = some x → w.cell? ⟨b2, o2 + i, none⟩ = some (.int .i32 x)) :
    Calls Yba.prog 8 #[.slice (some ⟨b1, o1, none⟩) n c1, .slice (some ⟨b2, o2, none⟩) n c2] w fun e w' => e = .returned (.bool true) ∧ ∃ q, w' = w.drewN q := by
  have H1 := hide h1
  have H2 := hide h2
  have hn' : n ≤ 100000 := by omega
  have HN := hide hn
  clear h1 h2 hn hl
  go_enter Yba.func8, Yba.ntmps8
  go_wp2
  go_loopw [13] (fun i wr => ∃ k : Nat, k ≤ n ∧ i = .int .i64 k ∧ ∃ q, wr = w.drewN q) (fun i _ => n - (intOf i).toNat)
  case atStart => exact ⟨0, Nat.zero_le _, rfl, 0, rfl⟩
  case round =>
    obtain ⟨k, hk, rfl, q, hwr⟩ := hrel
    have HW := hide hwr
    by_cases hlt : k < n
    · obtain ⟨x, hx⟩ : ∃ x, l[k]? = some x := ⟨l[k]'(by rw [HN.out]; exact hlt), List.getElem?_eq_getElem _⟩
      have g1 : wr.cell? ⟨b1, o1 + k, none⟩ = some (.int .i32 x) := by rw [hwr]; exact H1.out k x hx
      have g2 : wr.cell? ⟨b2, o2 + k, none⟩ = some (.int .i32 x) := by rw [hwr]; exact H2.out k x hx
      clear hwr hx
      go_wp2
      go_quiet (fail)
      go_wp2
      go_roundw
      case rel => exact ⟨k + 1, by omega, by go_num, _, by rw [HW.out, World.drewN_drewN]⟩
      case measure => simp [intOf]; omega
    · clear hwr
      go_wp2
      go_ret
      exact ⟨rfl, q, HW.out⟩

set_option maxHeartbeats 400000 in
theorem equal_none (w : World) (a1 a2 : Option Addr) (c1 c2 : Nat) :
    Calls Yba.prog 8 #[.slice a1 0 c1, .slice a2 0 c2] w fun e w' => e = .returned (.bool true) ∧ w' = w := by
  go_enter Yba.func8, Yba.ntmps8
  go_wp2
  go_loop [13] (fun i => i = .int .i64 0) (fun _ => 0)
  case atStart => rfl
  case round =>
    obtain rfl := hrel
    go_wp2
    go_ret
    exact ⟨rfl, rfl⟩

/-- slices.Equal of two slices with the same numbers. -/
theorem equal_any (w : World) (v1 v2 : Value) (l : List Int) (hl : l.length ≤ 100000) (h1 : Src w v1 l) (h2 : Src w v2 l) :
    Calls Yba.prog 8 #[v1, v2] w fun e w' => e = .returned (.bool true) ∧ ∃ q, w' = w.drewN q := by
  have none_case : ∀ a1 c1 a2 c2, v1 = .slice a1 0 c1 → v2 = .slice a2 0 c2 → Calls Yba.prog 8 #[v1, v2] w fun e w' => e = .returned (.bool true) ∧ ∃ q, w' = w.drewN q := by
    intro a1 c1 a2 c2 e1 e2
    subst e1 e2
    exact (equal_none w a1 a2 c1 c2).mono fun e w' ⟨h1, h2⟩ => ⟨h1, 0, h2⟩
  rcases h1 with ⟨rfl, a1, c1, rfl, _⟩ | ⟨b1, o1, c1, rfl, h1⟩
  · rcases h2 with ⟨_, a2, c2, rfl, _⟩ | ⟨b2, o2, c2, rfl, h2⟩
    · exact none_case _ _ _ _ rfl rfl
    · exact none_case _ _ _ _ rfl rfl
  · rcases h2 with ⟨rfl, a2, c2, rfl, _⟩ | ⟨b2, o2, c2, rfl, h2⟩
    · exact none_case _ _ _ _ rfl rfl
    · exact equal_some w b1 o1 c1 b2 o2 c2 l.length l rfl hl h1 h2
end Go.Proofs.Ybulkaxc.Clone
