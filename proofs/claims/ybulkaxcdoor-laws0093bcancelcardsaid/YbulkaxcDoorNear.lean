/-
  roundSearch.nearer, by contract.
-/
import Derived.Test.YbulkaxcDoorFwd
namespace Go.Proofs.YbulkaxcDoor.Near
open Go Go.RowKit Go.Proofs.YbulkaxcDoor.Mem Go.Proofs.YbulkaxcDoor.Pl Go.Proofs.YbulkaxcDoor.RS Go.Proofs.YbulkaxcDoor.Dg Go.Proofs.YbulkaxcDoor.Sr
set_option linter.unusedVariables false

theorem info3 : (Ybad.prog.info? 3).map (fun i => (i.zero, i.size, i.bytes)) = some (some (.int .i64 0), 1, 8) := by kernel_rfl

def upto (k : Nat) : List Int := (List.range k).map (fun i : Nat => (i : Int))
theorem upto_succ (k : Nat) : upto (k + 1) = upto k ++ [(k : Int)] := by unfold upto; rw [List.range_succ, List.map_append]; rfl
theorem upto_len (k : Nat) : (upto k).length = k := by simp [upto]
theorem upto_at {k i : Nat} (h : i < k) : (upto k)[i]? = some (i : Int) := by simp [upto, h]

theorem putNear {w w1 : World} {B grs gd P : Nat} {tag : Nat → Nat} {s : Rs} (h : RS w B grs gd P tag s) (v v' : Value) (l : List Int) (hv : ∀ g, v.ownBlock = some g → s.vn.ownBlock = some g) (t : Tch (fun x => v.ownBlock = some x) w w1) (hf : Fr w v v') (ho : Own .i64 3 w1 B v' l) :
    ∃ tag', RS (w1.setCell ⟨grs, 10, none⟩ v') B grs gd P tag' { s with near := l, vn := v' } ∧ TT tag w tag' (w1.setCell ⟨grs, 10, none⟩ v') := by
  refine put h 10 10 (by decide) v v' { s with near := l, vn := v' } hv t hf rfl (fun i hi => ⟨?_, fun w => ?_⟩) ho rfl
  · unfold Rs.val; split <;> first | rfl | exact absurd rfl hi
  · unfold Rs.own; split <;> first | rfl | exact absurd rfl hi

def NPost (w : World) (B grs gd n : Nat) (tag : Nat → Nat) (s : Rs) (k : Nat) (wr : World) : Prop :=
  ∃ tag' vn, RS wr B grs gd (2 * n) tag' { s with near := upto k, vn := vn } ∧ TT tag w tag' wr
theorem NPost.keep {w : World} {B grs gd n : Nat} {tag : Nat → Nat} {s : Rs} {k : Nat} {wr wr' : World} (h : NPost w B grs gd n tag s k wr) (t : Tch Non wr wr') : NPost w B grs gd n tag s k wr' := by
  obtain ⟨tag', vn, h1, h2⟩ := h
  exact ⟨tag', vn, h1.keep t, h2.trans (TT.keep t)⟩

set_option maxRecDepth 10000 in
set_option maxHeartbeats 1000000 in
theorem nearer_any (w : World) (B grs gd n gr cr x : Nat) (tag : Nat → Nat) (s : Rs) (h : RS w B grs gd (2 * n) tag s)
    (er : s.vr = .slice (some ⟨gr, 0, none⟩) (2 * n) cr) (ay : Option Addr) (L cy : Nat) (ey : s.vy = .slice ay L cy) (hn : n ≤ 8) (hx : x < 2 * n) (hL : L ≤ 2000)
    (hys : ∀ (i : Nat) (v : Int), s.ys[i]? = some v → ∃ y : Nat, v = (y : Int) ∧ y < 2 * n) :
    Calls Ybad.prog 11 #[.pointer (some ⟨grs, 0, none⟩), .int .i32 (x : Int), .slice ay L cy] w
      fun e w' => ∃ tag' vn, e = .returned vn ∧ RS w' B grs gd (2 * n) tag' { s with near := upto L, vn := vn } ∧ TT tag w tag' w' := by
  obtain ⟨i0, hi, hz0, hz1, hz2⟩ := info_parts info3
  have HR := hide h
  have HER := hide er
  have HEY := hide ey
  have HYS := hide hys
  have o10 : Own .i64 3 w B s.vn s.near := h.own 10
  have k10 : w.cell? ⟨grs, 10, none⟩ = some s.vn := h.blk.cell 10
  have z10 := h.blk.frozen 10
  clear h er ey hys
  go_enter Ybad.func11, Ybad.ntmps11
  go_upto_region 1 with fail
  go_cut [1] (fun v wx => v = .int .i32 (x : Int) ∧ NPost w B grs gd n tag s 0 wx)
  case first =>
    rcases o10.form with ⟨ev, el⟩ | ⟨gv, cv, ev, hb, hlt, hlc, hcm⟩
    · rw [ev] at k10
      obtain ⟨tag', q1, q2⟩ := putNear HR.out (.slice none 0 0) (.slice none 0 0) [] (by simp [Value.ownBlock]) (Tch.refl _ w) (fun k hk => .inl hk) (Own.nil .i64 3 _ B)
      have HQ := hide (And.intro q1 q2)
      clear o10 ev el q1 q2
      go_wp2_with fail
      go_meet
      case rel => exact ⟨rfl, tag', _, HQ.out.1, HQ.out.2⟩
    · rw [ev] at k10
      rw [ev] at o10
      have o11 := o10.cut 0 (Nat.zero_le _)
      obtain ⟨tag', q1, q2⟩ := putNear HR.out (.slice (some ⟨gv, 0, none⟩) 0 cv) (.slice (some ⟨gv, 0, none⟩) 0 cv) [] (fun g hg => by rw [ev]; exact hg) (Tch.refl _ w) (fun k hk => .inl hk) (by simpa using o11)
      have HQ := hide (And.intro q1 q2)
      generalize s.near.length = N at *
      clear o10 o11 ev q1 q2
      go_wp2_with fail
      go_meet
      case rel => exact ⟨rfl, tag', _, HQ.out.1, HQ.out.2⟩
  case rest =>
    obtain ⟨rfl, hN⟩ := hcut
    have HN := hide hN
    clear hN HR o10 k10 z10
    go_wp2_with fail
    go_loopw [19] (fun t wr => ∃ k : Nat, k ≤ L ∧ t = .int .i64 k ∧ NPost w B grs gd n tag s k wr) (fun t _ => L - (intOf t).toNat)
    case atStart => exact ⟨0, Nat.zero_le _, rfl, HN.out⟩
    case round =>
      clear HN
      obtain ⟨k, hk, rfl, tag1, vn, q1, q2⟩ := hrel
      by_cases hlt : k < L
      · have oy : Own .i32 21 wr B (.slice ay L cy) s.ys := by have := q1.own 8; unfold Rs.own at this; rw [← HEY.out]; exact this
        obtain ⟨v, hv⟩ : ∃ v, s.ys[k]? = some v := ⟨_, List.getElem?_eq_getElem (by rw [oy.len]; exact hlt)⟩
        obtain ⟨y, rfl, hy⟩ := HYS.out k v hv
        obtain ⟨gy, rfl⟩ : ∃ gy, ay = some ⟨gy, 0, none⟩ := by
          rcases oy.form with ⟨e, _⟩ | ⟨g, cap, e, _⟩
          · cases e; omega
          · cases e; exact ⟨g, rfl⟩
        have cy' := oy.at hv
        have r1 := rk q1 HER.out hy
        have r2 := rk q1 HER.out hx
        have k1 : wr.cell? ⟨grs, 1, none⟩ = some (.slice (some ⟨gr, 0, none⟩) (2 * n) cr) := (q1.blk.cell 1).trans (by rw [← HER.out]; rfl)
        obtain ⟨an, nn, cn, en⟩ := (show Own .i64 3 wr B vn (upto k) from q1.own 10).slice
        subst en
        have o10 : Own .i64 3 wr B (.slice an nn cn) (upto k) := q1.own 10
        have k10 : wr.cell? ⟨grs, 10, none⟩ = some (.slice an nn cn) := q1.blk.cell 10
        have hlu := upto_len k
        have Q1 := hide q1
        have Q2 := hide q2
        have O := hide o10
        have hBw := q1.hB
        clear q1 q2 oy o10 hv
        go_upto_region 5 with fail
        go_quiet (fail)
        go_upto_region 6 with fail
        generalize hW : World.drewN wr _ = W
        have hWk : Tch Non wr W := by rw [← hW]; exact (Tch.refl _ _).drewN _
        have Q1' := hide (Q1.out.keep hWk)
        have Q2' := hide (Q2.out.trans (TT.keep hWk))
        have O' := hide (O.out.keep hWk)
        have k10' := hWk.cell k10 (fun h => h)
        have hBW := Q1'.out.hB
        clear hW hWk Q1 Q2 O k10 cy' r1 r2 k1
        go_wp2_with (at_builtin; go_must (refine wpList_app (v := .slice an nn cn) _ rfl (.tmp 43) (.tmp 45) .i64 3 37 rfl i0 8 (by omega) Ybad.underlying37 hi hz0 hz1 hz2 rfl (by exact O'.out.alloc _) rfl (by exact Src.one .i64 3 W (k : Int) 1) (by simp only [List.length_cons, List.length_nil]; omega) (by simp only [World.size_alloc]; omega) ?_; intro v' w1 hown' hgrow hfr; obtain ⟨al', nl', cl', hv'⟩ := hown'.slice; subst hv'; have hb1 : Blk w1 grs 57 _ := (Q1'.out.blk.alloc _).touch hgrow (fun hm => own_not_grs Q1'.out 10 (by decide) hm rfl); have hx1 : w1.cell? ⟨grs, 10, none⟩ = some (.slice an nn cn) := hb1.cell 10; have hf1 := hb1.frozen 10; clear hb1))
        go_roundw
        case rel =>
          obtain ⟨tag9, q8, q9⟩ := putNear (Q1'.out.keep ((Tch.refl Non W).alloc (.cells #[.int .i64 (k : Int)] 3))) (.slice an nn cn) (.slice al' nl' cl') (upto k ++ [(k : Int)]) (fun g hg => hg) hgrow hfr hown'
          rw [← upto_succ] at q8
          exact ⟨k + 1, by omega, rfl, tag9, _, q8, (Q2'.out.trans (TT.keep ((Tch.refl Non W).alloc _))).trans q9⟩
        case measure => simp [intOf]; omega
      · obtain rfl : k = L := by omega
        obtain ⟨an, nn, cn, en⟩ := (show Own .i64 3 wr B vn (upto k) from q1.own 10).slice
        subst en
        have k10 : wr.cell? ⟨grs, 10, none⟩ = some (.slice an nn cn) := q1.blk.cell 10
        have Q1 := hide q1
        have Q2 := hide q2
        clear q1 q2
        go_wp2_with fail
        go_ret
        exact ⟨tag1, _, rfl, Q1.out, Q2.out⟩
end Go.Proofs.YbulkaxcDoor.Near
