/-
  roundSearch.any, by contract.
-/
import Derived.Test.YbulkaxcDoorCross
namespace Go.Proofs.YbulkaxcDoor.Any
open Go Go.RowKit Go.Proofs.YbulkaxcDoor.Mem Go.Proofs.YbulkaxcDoor.Pl Go.Proofs.YbulkaxcDoor.RS Go.Proofs.YbulkaxcDoor.Dg Go.Proofs.YbulkaxcDoor.Sr Go.Proofs.YbulkaxcDoor.Any1 Go.Proofs.YbulkaxcDoor.Cross
set_option linter.unusedVariables false

/-- What 'any' is called with: all but its own box. -/
structure Pre (w0 : World) (B grs gd gg ga gh gs n m gr go gb cr co cb : Nat) (al : Option Addr) (cl : Nat) (A : List (Nat × Nat)) (st hd : List Int) (o : Option (Nat × Nat)) (tag : Nat → Nat) (s : Rs) (w : World) : Prop where
  good : Any1.Good w B grs gd n m gr go gb cr co cb tag A s
  dg : DG w tag gd gg ga gh gs n m al cl A st hd
  fg : Fix w tag ⟨0, 0, none⟩ (.int .i64 8)
  arcs : ∀ k, k < m → ArcAt w tag ga k
  can : Cross.Can w tag gg o 0
  off : ∀ g k, o = some (g, k) → g ≠ gd ∧ g ≠ gg ∧ g ≠ ga ∧ g ≠ gh ∧ g ≠ gs ∧ g < w.heap.size ∧ g ≠ 0 ∧ B ≤ g
  tb : ∀ x, tag x ≠ 0 → B ≤ x
  frame : Tch (fun x => B ≤ x) w0 w
  srch : s.srch ≤ 0

/-- The flag as it stands behind the call. -/
def Asked (w : World) : Option (Nat × Nat) → Nat → Prop
  | none, _ => True
  | some (g, k), c => Blk w g 32 [.int .i64 (k : Int), .int .i64 (c : Int)]
def ARet (w0 : World) (B n : Nat) (A : List (Nat × Nat)) (o : Option (Nat × Nat)) (e : Ending) (w' : World) : Prop :=
  ∃ b c, e = .returned (.bool b) ∧ Asked w' o c ∧ Tch (fun x => B ≤ x) w0 w' ∧ Res A o n b c

set_option maxRecDepth 10000 in
set_option maxHeartbeats 1000000 in
theorem any_any (w0 w : World) (B grs gd gg ga gh gs n m gr go gb cr co cb : Nat) (al : Option Addr) (cl : Nat) (A : List (Nat × Nat)) (st hd : List Int) (o : Option (Nat × Nat)) (tag : Nat → Nat) (s : Rs) (h : Pre w0 B grs gd gg ga gh gs n m gr go gb cr co cb al cl A st hd o tag s w) :
    Calls Ybad.prog 7 #[.pointer (some ⟨grs, 0, none⟩)] w fun e w' => ARet w0 B n A o e w' := by
  obtain ⟨tag1, q1, q2, q3⟩ := fresh h.good.rs
  have T1 := (Tch.refl Non w).alloc (.cells #[.pointer (some ⟨grs, 0, none⟩)] 23)
  have c1 := Blk.new w #[.pointer (some ⟨grs, 0, none⟩)] 23
  have t1 := q2.trans (TT.keep (tag := tag1) T1)
  have hat : At w0 B grs gd gg ga gh gs n m gr go gb cr co cb w.heap.size al cl A st hd o 0 tag1 s (w.alloc (.cells #[.pointer (some ⟨grs, 0, none⟩)] 23)) := by
    refine ⟨⟨q1.keep T1, h.good.er, h.good.eo, h.good.eb, h.good.ix, h.good.lo, h.good.lb, h.good.s0⟩, ⟨h.dg.tt t1, ⟨c1.cell 0, q3 _ (Nat.le_refl _)⟩, h.fg.tt t1, fun k hk => (h.arcs k hk).tt t1, h.can.tt t1, fun g k e => ?_, fun x hx => ?_⟩, h.frame.also T1⟩
    · obtain ⟨a1, a2, a3, a4, a5, a6, a7, a8⟩ := h.off g k e
      exact ⟨a1, a2, a3, a4, a5, by omega, a7, a8⟩
    · by_cases hl : x < w.heap.size
      · rw [q2.old x hl] at hx; exact h.tb x hx
      · have := h.good.rs.hB; omega
  have HC := hide (crossings_any w0 _ B grs gd gg ga gh gs n m gr go gb cr co cb w.heap.size al cl A st hd o tag1 s hat h.srch)
  have c2 : (w.alloc (.cells #[.pointer (some ⟨grs, 0, none⟩)] 23)).cell? ⟨w.heap.size, 0, none⟩ = some (.pointer (some ⟨grs, 0, none⟩)) := c1.cell 0
  clear hat t1 c1 T1 q1 q2 q3 h
  go_enter Ybad.func7, Ybad.ntmps7
  go_upto_region 1 with fail
  generalize w.alloc (.cells #[.pointer (some ⟨grs, 0, none⟩)] 23) = W at *
  go_wp2_with (first | (go_at_call 9; refine HC.out.mono ?_; rintro e w' ⟨b, c, tag2, s2, rfl, x1, x2⟩; replace x1 := hide x1; replace x2 := hide x2) | fail)
  go_ret
  refine ⟨b, c, rfl, ?_, x1.out.frame, x2.out⟩
  cases o with
  | none => trivial
  | some x => exact x1.out.env.can.2.1
end Go.Proofs.YbulkaxcDoor.Any
