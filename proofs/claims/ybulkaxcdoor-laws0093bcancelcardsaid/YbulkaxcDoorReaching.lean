/-
  roundSearch.reaching, by contract.
-/
import Derived.Test.YbulkaxcDoorBack
import Derived.Test.YbulkaxcDoorNear
namespace Go.Proofs.YbulkaxcDoor.Reaching
open Go Go.RowKit Go.Proofs.YbulkaxcDoor.Mem Go.Proofs.YbulkaxcDoor.Pl Go.Proofs.YbulkaxcDoor.RS Go.Proofs.YbulkaxcDoor.Dg Go.Proofs.YbulkaxcDoor.Sr Go.Proofs.YbulkaxcDoor.Back
open Go.Proofs.YbulkaxcDoor.Bi (Done)
open Go.Proofs.YbulkaxcDoor.Near (upto upto_len upto_at)
set_option linter.unusedVariables false

/-- The three boxes. -/
def RelR (w : World) (tag tag1 : Nat → Nat) (B grs gd n b1 b2 b3 : Nat) (s : Rs) (wr : World) : Prop :=
  RS wr B grs gd (2 * n) tag1 s ∧ TT tag w tag1 wr ∧ Blk wr b1 23 [.pointer (some ⟨grs, 0, none⟩)] ∧ Blk wr b2 21 [.int .i32 0] ∧ Blk wr b3 55 [.pointer (some ⟨gd, 0, none⟩)]
theorem RelR.keep {w : World} {tag tag1 : Nat → Nat} {B grs gd n b1 b2 b3 : Nat} {s : Rs} {wr wr' : World} (h : RelR w tag tag1 B grs gd n b1 b2 b3 s wr) (t : Tch Non wr wr') : RelR w tag tag1 B grs gd n b1 b2 b3 s wr' :=
  ⟨h.1.keep t, h.2.1.trans (TT.keep t), h.2.2.1.keep t, h.2.2.2.1.keep t, h.2.2.2.2.keep t⟩

set_option maxRecDepth 10000 in
set_option maxHeartbeats 1000000 in
theorem reaching_any (w : World) (B grs gd gg ga gh gs n m cl gr go cr co x : Nat) (al : Option Addr) (tag : Nat → Nat) (s : Rs) (A : List (Nat × Nat)) (st hd : List Int) (h : RS w B grs gd (2 * n) tag s) (d : DG w tag gd gg ga gh gs n m al cl A st hd)
    (er : s.vr = .slice (some ⟨gr, 0, none⟩) (2 * n) cr) (eo : s.vb = .slice (some ⟨go, 0, none⟩) (2 * n) co) (hix : s.vi = .slice none 0 0 ∨ Done A n m s)
    (hle : ∀ (i : Nat) (v : Int), s.beh[i]? = some v → v ≤ s.srch) (hs0 : 0 ≤ s.srch) (hs1 : s.srch ≤ 1000) (hx : x < 2 * n)
    (ay : Option Addr) (L cy : Nat) (ey : s.vy = .slice ay L cy) (an : Option Addr) (cn : Nat) (en : s.vn = .slice an L cn) (hnear : s.near = upto L) (hL : L ≤ 2000)
    (hys : ∀ (i : Nat) (v : Int), s.ys[i]? = some v → ∃ y : Nat, v = (y : Int) ∧ y < 2 * n) :
    Calls Ybad.prog 13 #[.pointer (some ⟨grs, 0, none⟩), .int .i32 (x : Int), .slice ay L cy, .slice an L cn] w
      fun e w' => ∃ v, e = .returned v ∧ BPost w B grs gd n m tag s A x w' := by
  have HR := hide h
  have HD := hide d
  have HER := hide er
  have HEO := hide eo
  have HIX := hide hix
  have HLE := hide hle
  have HEY := hide ey
  have HEN := hide en
  have HNE := hide hnear
  have HYS := hide hys
  have hn := d.hn
  clear h d er eo hix hle ey en hnear hys
  go_enter Ybad.func13, Ybad.ntmps13
  go_upto_region 1 with fail
  have T1 := hide ((Tch.refl Non w).alloc (.cells #[.pointer (some ⟨grs, 0, none⟩)] 23))
  have c1 := Blk.new w #[.pointer (some ⟨grs, 0, none⟩)] 23
  generalize w.alloc (.cells #[.pointer (some ⟨grs, 0, none⟩)] 23) = W at *
  have k0 : W.cell? ⟨grs, 0, none⟩ = some (.pointer (some ⟨gd, 0, none⟩)) := (HR.out.blk.keep T1.out).cell 0
  have l1 : W.cell? ⟨w.heap.size, 0, none⟩ = some (.pointer (some ⟨grs, 0, none⟩)) := c1.cell 0
  have C1 := hide c1
  have hsz : w.heap.size < W.heap.size := c1.lt
  clear c1
  go_upto_region 2 with fail
  have T2 := hide (T1.out.alloc (.cells #[.pointer (some ⟨gd, 0, none⟩)] 55))
  have d1 := C1.out.alloc (.cells #[.pointer (some ⟨gd, 0, none⟩)] 55)
  have d2 := Blk.new W #[.pointer (some ⟨gd, 0, none⟩)] 55
  generalize W.alloc (.cells #[.pointer (some ⟨gd, 0, none⟩)] 55) = W2 at *
  have hsz2 : W.heap.size < W2.heap.size := d2.lt
  have l1 : W2.cell? ⟨w.heap.size, 0, none⟩ = some (.pointer (some ⟨grs, 0, none⟩)) := d1.cell 0
  have k1 : W2.cell? ⟨grs, 1, none⟩ = some (.slice (some ⟨gr, 0, none⟩) (2 * n) cr) := ((HR.out.blk.keep T2.out).cell 1).trans (by rw [← HER.out]; rfl)
  have r2 := rk (HR.out.keep T2.out) HER.out hx
  have D1 := hide d1
  have D2 := hide d2
  clear d1 d2 C1 k0
  go_upto_region 3 with fail
  have T3 := hide (T2.out.alloc (.cells #[.int .i32 0] 21))
  have e1 := D1.out.alloc (.cells #[.int .i32 0] 21)
  have e2 := D2.out.alloc (.cells #[.int .i32 0] 21)
  have e3 := Blk.new W2 #[.int .i32 0] 21
  generalize W2.alloc (.cells #[.int .i32 0] 21) = W3 at *
  generalize W.heap.size = b3 at *
  generalize W2.heap.size = b2 at *
  obtain ⟨tag1, q1, q2, q3⟩ := fresh HR.out
  have R0 : RelR w tag tag1 B grs gd n w.heap.size b2 b3 s W3 := ⟨q1.keep T3.out, q2.trans (TT.keep T3.out), e1, e3, e2⟩
  have HR0 := hide R0
  have HT := hide (And.intro (q3 w.heap.size (Nat.le_refl _)) (And.intro (q3 b2 (by omega)) (q3 b3 (by omega))))
  clear q1 q2 q3 R0 e1 e2 e3 T1 T2 T3 D1 D2 l1 k1 r2
  go_wp2_with fail
  go_loopw [25] (fun t wr => ∃ k : Nat, k ≤ L ∧ t = .int .i64 k ∧ RelR w tag tag1 B grs gd n w.heap.size b2 b3 s wr) (fun t _ => L - (intOf t).toNat)
  case atStart => exact ⟨0, Nat.zero_le _, rfl, HR0.out⟩
  case round =>
    clear HR0
    obtain ⟨k, hk, rfl, hrr⟩ := hrel
    have HRR := hide hrr
    obtain ⟨q1, q2, q3, q4, q5⟩ := hrr
    by_cases hlt : k < L
    · have oy : Own .i32 21 wr B (.slice ay L cy) s.ys := by have := q1.own 8; unfold Rs.own at this; rw [← HEY.out]; exact this
      have on : Own .i64 3 wr B (.slice an L cn) (upto L) := by have := q1.own 10; unfold Rs.own at this; rw [← HEN.out, ← HNE.out]; exact this
      obtain ⟨v, hv⟩ : ∃ v, s.ys[k]? = some v := ⟨_, List.getElem?_eq_getElem (by rw [oy.len]; exact hlt)⟩
      obtain ⟨y, rfl, hy⟩ := HYS.out k v hv
      obtain ⟨gy, rfl⟩ : ∃ gy, ay = some ⟨gy, 0, none⟩ := by
        rcases oy.form with ⟨e, _⟩ | ⟨g, cap, e, _⟩
        · cases e; omega
        · cases e; exact ⟨g, rfl⟩
      obtain ⟨gn, rfl⟩ : ∃ gn, an = some ⟨gn, 0, none⟩ := by
        rcases on.form with ⟨e, _⟩ | ⟨g, cap, e, _⟩
        · cases e; omega
        · rw [upto_len] at e; cases e; exact ⟨g, rfl⟩
      have cy' := oy.at hv
      have cn' := on.at (upto_at hlt)
      have r1 := rk q1 HER.out hy
      have k1 : wr.cell? ⟨grs, 1, none⟩ = some (.slice (some ⟨gr, 0, none⟩) (2 * n) cr) := (q1.blk.cell 1).trans (by rw [← HER.out]; rfl)
      have l1 : wr.cell? ⟨w.heap.size, 0, none⟩ = some (.pointer (some ⟨grs, 0, none⟩)) := q3.cell 0
      have l2 : wr.cell? ⟨b2, 0, none⟩ = some (.int .i32 0) := q4.cell 0
      have z2 := q4.frozen 0
      have t9 := (Tch.refl (fun y => y = b2) wr).setCell (p := ⟨b2, 0, none⟩) (.inl rfl) (.int .i32 0)
      have HS := hide (show RelR w tag tag1 B grs gd n w.heap.size b2 b3 s (wr.setCell ⟨b2, 0, none⟩ (.int .i32 0)) from ⟨q1.other t9 HT.out.2.1, Bi.TT.new q2 t9 (by omega), q3.other (p := ⟨b2, 0, none⟩) (by show w.heap.size ≠ b2; omega) _, q4.set 0 _, q5.other (p := ⟨b2, 0, none⟩) (by show b3 ≠ b2; omega) _⟩)
      clear q1 q2 q3 q4 q5 HRR t9 oy on hv
      go_upto_region 6 with fail
      go_region
      all_goals
        go_wp2_with fail
        go_roundw
        case rel => exact ⟨k + 1, by omega, rfl, HS.out.keep ⟨rfl, rfl, rfl, Nat.le_refl _, fun _ _ _ => rfl⟩⟩
        case measure => simp [intOf]; omega
    · have l1 : wr.cell? ⟨w.heap.size, 0, none⟩ = some (.pointer (some ⟨grs, 0, none⟩)) := q3.cell 0
      have HB := hide (back_any wr B grs gd gg ga gh gs n m cl gr go cr co w.heap.size b2 b3 x al tag1 s A st hd q1 (HD.out.tt q2) HER.out HEO.out HIX.out ⟨q3.cell 0, HT.out.1⟩ ⟨q4.cell 0, HT.out.2.1⟩ ⟨q5.cell 0, HT.out.2.2⟩ HLE.out hs0 hs1 hx)
      have Q2 := hide q2
      clear q1 q2 q3 q4 q5 HRR
      go_wp2_with (first | (go_at_call 23; refine HB.out.mono ?_; rintro e w' ⟨v, rfl, hp⟩; replace hp := hide hp) | fail)
      first | go_end0 | refine bodyPost_ret (results_none rfl _ _ _) rfl ?_
      obtain ⟨s', tag', x1, x2, x3⟩ := hp.out
      exact ⟨_, rfl, s', tag', x1, Q2.out.trans x2, x3⟩
end Go.Proofs.YbulkaxcDoor.Reaching
