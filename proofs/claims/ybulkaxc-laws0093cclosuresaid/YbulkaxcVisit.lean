/-
  components$1 (visit), by contract.
-/
import Derived.Test.YbulkaxcCs
import Derived.Deep.RegionHeld3
import Derived.Deep.RegionLaw
import Derived.Deep.DeepCutAuto
import Derived.Deep.QuietTactic
import Derived.BigQuiet
import Derived.WalkSpells
namespace Go.Proofs.Ybulkaxc.Cm
open Go Go.RowKit Go.Proofs.Ybulkaxc.M2
set_option linter.unusedVariables false

theorem info111 : (Yba.prog.info? 111).map (fun i => (i.zero, i.size, i.bytes)) = some (some (.agg #[.int .i32 0, .int .i32 0]), 2, 8) := by kernel_rfl
theorem info21 : (Yba.prog.info? 21).map (fun i => (i.zero, i.size, i.bytes)) = some (some (.int .i32 0), 1, 4) := by kernel_rfl

set_option maxRecDepth 10000 in
set_option maxHeartbeats 1000000 in
theorem visit_any (w : World) (tag : Nat → Nat) (B n b1 b2 b3 b4 b5 b6 b7 gi gl go gm gy gs rc : Nat) (li ll lm : List Int) (lo ly : List Bool) (a4 : Option Addr) (n4 c4 : Nat) (stk : List Int) (a6 : Option Addr) (n6 c6 : Nat) (cal : List (Int × Int)) (p sp : Nat) (st : List Int)
    (hb : Bag w tag (T ⟨B, n, b1, b2, b3, b4, b5, b6, b7, gi, gl, go, gm, gy, .slice (some ⟨gs, 0, none⟩) (n + 1) (n + 1)⟩ ⟨rc, li, ll, lm, lo, ly, .slice a4 n4 c4, .slice a4 n4 c4, stk, .slice a6 n6 c6, .slice a6 n6 c6, cal⟩))
    (hro : RO w tag gs (n + 1) st) (hB : B ≤ w.heap.size) (hp : p < n) (hr : rc < 100000) (hs4 : stk.length ≤ 100000) (hs6 : cal.length ≤ 100000) (hli : li.length = n) (hll : ll.length = n) (hlo : lo.length = n) (hn : n ≤ 100000) (hsp : st[p]? = some (sp : Int)) (hsl : sp ≤ 100000) :
    Calls Yba.prog 23 #[.int .i32 (p : Int), .pointer (some ⟨b1, 0, none⟩), .pointer (some ⟨b2, 0, none⟩), .pointer (some ⟨b3, 0, none⟩), .pointer (some ⟨b4, 0, none⟩), .pointer (some ⟨b5, 0, none⟩), .pointer (some ⟨b6, 0, none⟩), .pointer (some ⟨b7, 0, none⟩)] w
      fun e w' => ∃ v tag' a4' n4' c4' a6' n6' c6', e = .returned v ∧
        Bag w' tag' (T ⟨B, n, b1, b2, b3, b4, b5, b6, b7, gi, gl, go, gm, gy, .slice (some ⟨gs, 0, none⟩) (n + 1) (n + 1)⟩ ⟨rc + 1, li.set p ((rc : Int) + 1), ll.set p ((rc : Int) + 1), lm, lo.set p true, ly, .slice a4' n4' c4', .slice a4' n4' c4', stk ++ [(p : Int)], .slice a6' n6' c6', .slice a6' n6' c6', cal ++ [((p : Int), (sp : Int))]⟩) ∧ TB tag w tag' w' := by
  have HRO := hide hro
  have c1 : w.cell? ⟨b1, 0, none⟩ = some (.int .i32 (rc : Int)) := Blk.cell (hb.say 1) 0
  have z1 : w.frozen? ⟨b1, 0, none⟩ = false := Blk.frozen (hb.say 1) 0
  obtain ⟨tag1, hb1, ht1⟩ := put1 hb (rc + 1)
  have eN : (((rc + 1 : Nat)) : Int) = (rc : Int) + 1 := rfl
  rw [eN] at hb1 ht1
  have HB1 := hide hb1
  have HT1 := hide ht1
  have e1 : (p : Int) < (n : Int) := by omega
  clear hb hb1 ht1 hro
  go_enter Yba.func23, Yba.ntmps23
  go_upto_region 1 with fail
  dsimp only at HB1 HT1
  generalize w.setCell ⟨b1, 0, none⟩ (.int .i32 ((rc : Int) + 1)) = W1 at *
  clear c1 z1
  have c1 : W1.cell? ⟨b1, 0, none⟩ = some (.int .i32 ((rc : Int) + 1)) := Blk.cell (HB1.out.say 1) 0
  have c2 : W1.cell? ⟨b2, 0, none⟩ = some (.slice (some ⟨gi, 0, none⟩) n n) := Blk.cell (HB1.out.say 2) 0
  have c3 : W1.cell? ⟨b3, 0, none⟩ = some (.slice (some ⟨gl, 0, none⟩) n n) := Blk.cell (HB1.out.say 3) 0
  obtain ⟨x8, hx8, c8⟩ := Own.cell (HB1.out.say 8) (i := p) (by dsimp only; omega)
  obtain ⟨x9, hx9, c9⟩ := Own.cell (HB1.out.say 9) (i := p) (by dsimp only; omega)
  have z8 : W1.frozen? ⟨gi, p, none⟩ = false := Own.frozen (HB1.out.say 8) p
  have z9 : W1.frozen? ⟨gl, p, none⟩ = false := Own.frozen (HB1.out.say 9) p
  dsimp only at c8 c9
  clear hx8 hx9
  obtain ⟨tag8, hb8, ht8⟩ := put8 HB1.out p ((rc : Int) + 1)
  obtain ⟨tag89, hb89, ht89⟩ := put9 hb8 p ((rc : Int) + 1)
  obtain ⟨tag9, hb9, ht9⟩ := put9 HB1.out p ((rc : Int) + 1)
  obtain ⟨tag98, hb98, ht98⟩ := put8 hb9 p ((rc : Int) + 1)
  dsimp only at hb8 ht8 hb89 ht89 hb9 ht9 hb98 ht98
  have d1 : (W1.setCell ⟨gi, p, none⟩ (.int .i32 ((rc : Int) + 1))).cell? ⟨b1, 0, none⟩ = some (.int .i32 ((rc : Int) + 1)) := Blk.cell (hb8.say 1) 0
  have d3 : (W1.setCell ⟨gi, p, none⟩ (.int .i32 ((rc : Int) + 1))).cell? ⟨b3, 0, none⟩ = some (.slice (some ⟨gl, 0, none⟩) n n) := Blk.cell (hb8.say 3) 0
  obtain ⟨y9, hy9, d9⟩ := Own.cell (hb8.say 9) (i := p) (by dsimp only; omega)
  have dz9 : (W1.setCell ⟨gi, p, none⟩ (.int .i32 ((rc : Int) + 1))).frozen? ⟨gl, p, none⟩ = false := Own.frozen (hb8.say 9) p
  have f1 : (W1.setCell ⟨gl, p, none⟩ (.int .i32 ((rc : Int) + 1))).cell? ⟨b1, 0, none⟩ = some (.int .i32 ((rc : Int) + 1)) := Blk.cell (hb9.say 1) 0
  have f2 : (W1.setCell ⟨gl, p, none⟩ (.int .i32 ((rc : Int) + 1))).cell? ⟨b2, 0, none⟩ = some (.slice (some ⟨gi, 0, none⟩) n n) := Blk.cell (hb9.say 2) 0
  obtain ⟨y8, hy8, f8⟩ := Own.cell (hb9.say 8) (i := p) (by dsimp only; omega)
  have fz8 : (W1.setCell ⟨gl, p, none⟩ (.int .i32 ((rc : Int) + 1))).frozen? ⟨gi, p, none⟩ = false := Own.frozen (hb9.say 8) p
  dsimp only at d9 f8
  clear hy8 hy9
  have P1 := hide (And.intro hb89 (ht8.trans ht89))
  have P2 := hide (And.intro hb98 (ht9.trans ht98))
  clear hb8 hb89 hb9 hb98 ht8 ht89 ht9 ht98
  go_cut [0] (fun v wx => v = .int .i32 (p : Int) ∧ ∃ tag', Bag wx tag' (T ⟨B, n, b1, b2, b3, b4, b5, b6, b7, gi, gl, go, gm, gy, .slice (some ⟨gs, 0, none⟩) (n + 1) (n + 1)⟩ ⟨rc + 1, li.set p ((rc : Int) + 1), ll.set p ((rc : Int) + 1), lm, lo, ly, .slice a4 n4 c4, .slice a4 n4 c4, stk, .slice a6 n6 c6, .slice a6 n6 c6, cal⟩) ∧ TB tag1 W1 tag' wx)
  case first =>
    go_region
    all_goals
      go_wp2_with fail
      go_meet
      case rel =>
        refine ⟨rfl, ?_⟩
        first
          | (obtain ⟨q1, q2⟩ := P1.out; exact ⟨_, q1.keep ⟨rfl, rfl, rfl, Nat.le_refl _, fun _ _ _ => rfl⟩, q2.trans (TB.keep ⟨rfl, rfl, rfl, Nat.le_refl _, fun _ _ _ => rfl⟩)⟩)
          | (obtain ⟨q1, q2⟩ := P2.out; exact ⟨_, q1.keep ⟨rfl, rfl, rfl, Nat.le_refl _, fun _ _ _ => rfl⟩, q2.trans (TB.keep ⟨rfl, rfl, rfl, Nat.le_refl _, fun _ _ _ => rfl⟩)⟩)
  case rest =>
    obtain ⟨rfl, tag2, hb2, ht2⟩ := hcut
    clear c1 c2 c3 c8 c9 z8 z9 d1 d3 d9 dz9 f1 f2 f8 fz8 P1 P2
    have HB2 := hide hb2
    have HT2 := hide (HT1.out.trans ht2)
    have hBc : B ≤ wc.heap.size := Nat.le_trans hB HT2.out.tch.size
    have c4' : wc.cell? ⟨b4, 0, none⟩ = some (.slice a4 n4 c4) := Blk.cell (HB2.out.say 4) 0
    clear hb2 ht2 HB1 HT1
    obtain ⟨i0, hi, hz0, hz1, hz2⟩ := info_parts info21
    go_upto_region 3 with (first
      | (at_builtin; go_must (refine wpList_app (v := .slice a4 n4 c4) _ rfl (.tmp 19) (.tmp 21) .i32 21 23 rfl i0 4 (by decide) Yba.underlying23 hi hz0 hz1 hz2 rfl (Own.alloc (HB2.out.say 10) _) rfl (Src.one .i32 21 wc (p : Int) 1) (by simp only [List.length_cons, List.length_nil]; omega) (by simp only [World.size_alloc]; omega) ?_; intro v' w1 ho tt hf; obtain ⟨a4', n4', c4'', hv'⟩ := ho.slice; subst hv'; obtain ⟨tag3, hb3, ht3⟩ := put10 (HB2.out.keep ((Tch.refl Non wc).alloc _)) tt ho hf; have HB3 := hide hb3; have HT3 := hide (HT2.out.trans ((TB.keep ((Tch.refl Non wc).alloc _)).trans ht3)); have g4 : w1.cell? ⟨b4, 0, none⟩ = some (.slice a4 n4 c4) := Blk.cell (HB3.out.say 4) 0; have zg4 : w1.frozen? ⟨b4, 0, none⟩ = false := Blk.frozen (HB3.out.say 4) 0; clear hb3 ht3 ho tt hf))
      | fail)
    dsimp only at HB3
    obtain ⟨tag4, hb4, ht4⟩ := put4 HB3.out (.slice a4' n4' c4'')
    have HB4 := hide hb4
    have HT4 := hide (HT3.out.trans ht4)
    dsimp only at HB4 HT4
    clear hb4 ht4 g4 zg4 HB3 HT3 c4' HB2 HT2
    generalize w1.setCell ⟨b4, 0, none⟩ (.slice a4' n4' c4'') = W4 at *
    have c5 : W4.cell? ⟨b5, 0, none⟩ = some (.slice (some ⟨go, 0, none⟩) n n) := Blk.cell (HB4.out.say 5) 0
    obtain ⟨x11, hx11⟩ : ∃ x, lo[p]? = some x := ⟨lo[p]'(by omega), List.getElem?_eq_getElem _⟩
    have c11 : W4.cell? ⟨go, p, none⟩ = some (.bool x11) := OwnB.cell (HB4.out.say 11) hx11
    have z11 : W4.frozen? ⟨go, p, none⟩ = false := OwnB.frozen (HB4.out.say 11) p
    obtain ⟨tag5, hb5, ht5⟩ := put11 HB4.out p true
    have HB5 := hide hb5
    have HT5 := hide (HT4.out.trans ht5)
    dsimp only at HB5 HT5
    clear hb5 ht5 HB4 HT4 hx11
    go_upto_region 4 with fail
    generalize W4.setCell ⟨go, p, none⟩ (.bool true) = W5 at *
    clear c5 c11 z11
    have hB5 : B ≤ W5.heap.size := Nat.le_trans hB HT5.out.tch.size
    have c6' : W5.cell? ⟨b6, 0, none⟩ = some (.slice a6 n6 c6) := Blk.cell (HB5.out.say 6) 0
    have c7' : W5.cell? ⟨b7, 0, none⟩ = some (.slice (some ⟨gs, 0, none⟩) (n + 1) (n + 1)) := Blk.cell (HB5.out.say 7) 0
    have cS : W5.cell? ⟨gs, p, none⟩ = some (.int .i32 (sp : Int)) := (HRO.out.tb HT5.out).own.at hsp
    have HBA := hide (HB5.out.keep ((Tch.refl Non W5).alloc (.cells #[.int .i32 (p : Int), .int .i32 (sp : Int)] 111)))
    have d6 : (W5.alloc (.cells #[.int .i32 (p : Int), .int .i32 (sp : Int)] 111)).cell? ⟨b6, 0, none⟩ = some (.slice a6 n6 c6) := Blk.cell (HBA.out.say 6) 0
    have SR := hide (Src2.new W5 111 [((p : Int), (sp : Int))])
    obtain ⟨i1, hi1, hy0, hy1, hy2⟩ := info_parts info111
    have e2 : (p : Int) < (n : Int) + 1 := by omega
    go_region_law (refine step_app2 (v := .slice a6 n6 c6) _ rfl (.tmp 26) (.tmp 33) 111 109 rfl i1 _ Yba.underlying109 hi1 hy0 hy1 hy2 rfl rfl (by exact HBA.out.say 12) rfl rfl (by exact SR.out) (by simp only [List.length_cons, List.length_nil]; omega) (by show B ≤ (W5.alloc _).heap.size; rw [World.size_alloc]; omega) ?_; intro v6' w6 ho tt hf; obtain ⟨a6', n6', c6'', hv'⟩ := ho.slice; subst hv'; obtain ⟨tag6, hb6, ht6⟩ := put12 HBA.out tt.undrew ho hf; have HB6 := hide hb6; have HT6 := hide (HT5.out.trans ((TB.keep ((Tch.refl Non W5).alloc _)).trans ht6)); have g6 : w6.cell? ⟨b6, 0, none⟩ = some (.slice a6 n6 c6) := Blk.cell (HB6.out.say 6) 0; have zg6 : w6.frozen? ⟨b6, 0, none⟩ = false := Blk.frozen (HB6.out.say 6) 0; clear hb6 ht6 ho tt hf)
    all_goals
      obtain ⟨tag7, hb7, ht7⟩ := put6 HB6.out (.slice a6' n6' c6'')
      dsimp only at hb7
      have HB7 := hide hb7
      have HT7 := hide (HT6.out.trans ht7)
      clear hb7 ht7
      go_wp2_with fail
      first | go_end0 | refine bodyPost_ret (results_none rfl _ _ _) rfl ?_
      exact ⟨⟨_, rfl⟩, tag7, ⟨_, _, _, _, _, _, HB7.out.keep ⟨rfl, rfl, rfl, Nat.le_refl _, fun _ _ _ => rfl⟩⟩, HT7.out.trans (TB.keep ⟨rfl, rfl, rfl, Nat.le_refl _, fun _ _ _ => rfl⟩)⟩
end Go.Proofs.Ybulkaxc.Cm
