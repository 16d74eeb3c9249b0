/-
  graphOf, by contract.
-/
import Derived.Test.YbulkaxcClone
import Derived.Test.YbulkaxcM2
import Derived.Test.YbulkaxcLay2
import Derived.Deep.RegionHeld3
import Derived.Deep.RegionLaw
import Derived.Deep.DeepCutAuto
import Derived.Deep.QuietTactic
import Derived.BigQuiet
namespace Go.Proofs.Ybulkaxc.Gr
open Go Go.RowKit Go.Proofs.Ybulkaxc.M2 Go.Proofs.Ybulkaxc.Pl2
set_option linter.unusedVariables false

theorem info21 : (Yba.prog.info? 21).map (fun i => (i.zero, i.size, i.bytes)) = some (some (.int .i32 0), 1, 4) := by kernel_rfl

/-- A slice of arcs, each an array of two. -/
def Arcs2 (w : World) (a : Option Addr) (m : Nat) (A : List (Nat × Nat)) : Prop :=
  A.length = m ∧ ∀ (k f t : Nat), A[k]? = some (f, t) → ∃ b, a = some ⟨b, 0, none⟩ ∧ w.cell? ⟨b, k * 2, none⟩ = some (.int .i32 (f : Int)) ∧ w.cell? ⟨b, k * 2 + 1, none⟩ = some (.int .i32 (t : Int))
theorem Arcs2.keep {w w' : World} {a : Option Addr} {m : Nat} {A : List (Nat × Nat)} (h : Arcs2 w a m A) (t : Tch Non w w') : Arcs2 w' a m A :=
  ⟨h.1, fun k f u hk => by
    obtain ⟨b, e, c1, c2⟩ := h.2 k f u hk
    exact ⟨b, e, t.cell c1 (fun h => h), t.cell c2 (fun h => h)⟩⟩

def Rel1 (w0 : World) (B gs n : Nat) (fs : List Nat) (k : Nat) (wr : World) : Prop := ∃ l, Own .i32 21 wr B (.slice (some ⟨gs, 0, none⟩) (n + 1) (n + 1)) l ∧ Cnt fs n k l ∧ Tch Non w0 wr

def Rel2 (w0 : World) (B gs n : Nat) (fs : List Nat) (k : Nat) (wr : World) : Prop := ∃ l, Own .i32 21 wr B (.slice (some ⟨gs, 0, none⟩) (n + 1) (n + 1)) l ∧ Pre fs n k l ∧ Tch Non w0 wr
def Rel3 (w0 : World) (B gf gh n m : Nat) (A : List (Nat × Nat)) (vf : Value) (k : Nat) (wr : World) : Prop :=
  ∃ fl hl, Own .i32 21 wr B vf fl ∧ Own .i32 21 wr B (.slice (some ⟨gh, 0, none⟩) m m) hl ∧ Fil A n k fl hl ∧ Tch Non w0 wr

set_option maxRecDepth 10000 in
set_option maxHeartbeats 2000000 in
theorem graphOf_any (w : World) (n m ca : Nat) (aa : Option Addr) (A : List (Nat × Nat)) (h : Arcs2 w aa m A) (hA : ∀ a b, (a, b) ∈ A → a < n ∧ b < n) (hn : n ≤ 1000) (hm : m ≤ 100000) :
    Calls Yba.prog 18 #[.int .i32 (n : Int), .slice aa m ca] w fun e w' => ∃ gs gh st hd, e = .returned (.tuple #[.slice (some ⟨gs, 0, none⟩) (n + 1) (n + 1), .slice (some ⟨gh, 0, none⟩) m m]) ∧ Own .i32 21 w' w.heap.size (.slice (some ⟨gs, 0, none⟩) (n + 1) (n + 1)) st ∧ Own .i32 21 w' w.heap.size (.slice (some ⟨gh, 0, none⟩) m m) hd ∧ CSR A n st hd ∧ Tch Non w w' := by
  obtain ⟨i0, hi, hz0, hz1, hz2⟩ := info_parts info21
  have hfl : (fsOf A).length = m := by unfold fsOf; rw [List.length_map]; exact h.1
  have HFL := hide hfl
  have H := hide h
  have HA := hide hA
  clear h hA hfl
  go_enter Yba.func18, Yba.ntmps18
  go_upto_region 2 with (first
    | (refine wpList_make_full _ rfl (.tmp 13) (.tmp 13) 23 rfl w.heap.size 21 i0 (.int .i32 0) 1 Yba.underlying23 hi hz0 hz1 .i32 .i32 _ _ (n + 1) rfl rfl (by omega) (by omega) (by rw [hz2]; omega) (by unfold maxLen; omega) (Nat.le_refl _) ?_; intro w1 hown1 hgr1; have t1 : Tch Non w w1 := (Tch.refl _ _).of_grownBy hgr1 (by simp); have O1 := hide (Own.made hown1); have T1 := hide t1; clear hown1 hgr1 t1) | fail)
  have HR0 := hide (show Rel1 w w.heap.size w.heap.size n (fsOf A) 0 w1 from ⟨_, O1.out, Cnt.start _ _, T1.out⟩)
  clear O1 T1
  go_wp2_with fail
  go_loopw [17] (fun t wq => ∃ k : Nat, k ≤ m ∧ t = .int .i64 k ∧ Rel1 w w.heap.size w.heap.size n (fsOf A) k wq) (fun t _ => m - (intOf t).toNat)
  case atStart => exact ⟨0, Nat.zero_le _, rfl, HR0.out⟩
  case round =>
    clear HR0
    obtain ⟨k, hk, rfl, l, q1, q2, q3⟩ := hrel
    by_cases hlt : k < m
    · obtain ⟨⟨f, t⟩, hx⟩ : ∃ x, A[k]? = some x := ⟨A[k]'(by rw [H.out.1]; exact hlt), List.getElem?_eq_getElem _⟩
      have hrg := HA.out f t (List.mem_of_getElem? hx)
      obtain ⟨b, rfl, c1, c2⟩ := (H.out.keep q3).2 k f t hx
      have hgl := (q1.lt (g := w.heap.size) rfl).2
      have q1' := q1.alloc (.cells #[.int .i32 (f : Int), .int .i32 (t : Int)] 96)
      have c6 := q1'.at (q2.at_ f hrg.1)
      have z6 := q1'.frozen (f + 1)
      have HS := hide (show Rel1 w w.heap.size w.heap.size n (fsOf A) (k + 1) ((wr.alloc (.cells #[.int .i32 (f : Int), .int .i32 (t : Int)] 96)).setCell ⟨w.heap.size, f + 1, none⟩ (.int .i32 ((((fsOf A).take k).count f : Nat) + 1 : Int))) from ⟨_, q1'.set (f + 1) _, q2.step (fsOf_at hx) hrg.1, (q3.alloc _).setCell (.inr (Nat.le_refl _)) _⟩)
      have hcb : ((fsOf A).take k).count f ≤ k := Nat.le_trans List.count_le_length (by rw [List.length_take]; omega)
      generalize ((fsOf A).take k).count f = c at *
      have bx := Blk.new wr #[.int .i32 (f : Int), .int .i32 (t : Int)] 96
      clear q1 q2 q3 hx
      have e1 : (f : Int) < (n : Int) := by omega
      go_upto_region 5 with fail
      generalize wr.alloc (.cells #[.int .i32 (f : Int), .int .i32 (t : Int)] 96) = W1 at *
      have l0 : W1.cell? ⟨wr.heap.size, 0, none⟩ = some (.int .i32 (f : Int)) := bx.cell 0
      clear bx q1'
      go_wp2_with fail
      go_roundw
      case rel => exact ⟨k + 1, by omega, rfl, HS.out⟩
      case measure => simp [intOf]; omega
    · obtain rfl : m = k := by omega
      have HP0 := hide (show Rel2 w w.heap.size w.heap.size n (fsOf A) 0 wr from ⟨l, q1, Cnt.pre (by rw [HFL.out]; exact q2), q3⟩)
      clear q1 q2 q3 hlt
      go_wp2_with fail
      go_loopw [31] (fun t wr => ∃ k : Nat, k ≤ n ∧ t = .int .i32 k ∧ Rel2 w w.heap.size w.heap.size n (fsOf A) k wr) (fun t _ => n - (intOf t).toNat)
      case atStart => exact ⟨0, Nat.zero_le _, rfl, HP0.out⟩
      case round =>
        clear HP0
        obtain ⟨q, hq, rfl, l, q1, q2, q3⟩ := hrel
        by_cases hlt : q < n
        · have c6 := q1.at (q2.hi q (Nat.le_refl _) hlt)
          have c7 := q1.at (q2.lo q (Nat.le_refl _))
          have z6 := q1.frozen (q + 1)
          have HS := hide (show Rel2 w w.heap.size w.heap.size n (fsOf A) (q + 1) (wr.setCell ⟨w.heap.size, q + 1, none⟩ (.int .i32 (((fsOf A).count q : Nat) + (below (fsOf A) q : Nat) : Int))) from ⟨_, q1.set (q + 1) _, q2.step hlt, q3.setCell (.inr (Nat.le_refl _)) _⟩)
          have hb1 := below_le (fsOf A) (q + 1)
          rw [below_succ, HFL.out] at hb1
          generalize (fsOf A).count q = c at *
          generalize below (fsOf A) q = b at *
          clear q1 q2 q3
          have e1 : (q : Int) < (n : Int) + 1 := by omega
          have e2 : (q : Int) + 1 < (n : Int) + 1 := by omega
          go_upto_region 10 with fail
          go_region
          all_goals
            go_wp2_with fail
            go_roundw
            case rel =>
              obtain ⟨l3, r1, r2, r3⟩ := HS.out
              exact ⟨q + 1, by omega, by go_num, l3, r1.keep ⟨rfl, rfl, rfl, Nat.le_refl _, fun _ _ _ => rfl⟩, r2, r3.also ⟨rfl, rfl, rfl, Nat.le_refl _, fun _ _ _ => rfl⟩⟩
            case measure => simp [intOf]; omega
        · obtain rfl : n = q := by omega
          have HQ1 := hide q1
          have HQ2 := hide q2
          have HQ3 := hide q3
          have hsz := q3.size
          clear q1 q2 q3 hlt
          generalize wr = wC at *
          go_upto_region 13 with (first
            | (refine wpList_make_full _ rfl (.tmp 47) (.tmp 47) 23 rfl wC.heap.size 21 i0 (.int .i32 0) 1 Yba.underlying23 hi hz0 hz1 .i64 .i64 _ _ m rfl rfl rfl rfl (by rw [hz2]; omega) (by unfold maxLen; omega) (Nat.le_refl _) ?_; intro w5 hown5 hgr5; have t5 : Tch Non wC w5 := (Tch.refl _ _).of_grownBy hgr5 (by simp); have O5 := hide (Own.made hown5); have T5 := hide t5; clear hown5 hgr5 t5) | fail)
          have hsrc : Mem.Src w5 (.slice (some ⟨w.heap.size, 0, none⟩) n (n + 1)) (l.take n) := by
            have hll : (l.take n).length = n := by rw [List.length_take, HQ2.out.len]; omega
            refine .inr ⟨w.heap.size, 0, n + 1, by rw [hll], fun i x hx => ?_⟩
            rw [List.getElem?_take] at hx
            split at hx
            · rw [Nat.zero_add]; exact (HQ1.out.keep T5.out).at hx
            · cases hx
          have HCL := hide (Clone.clone_any w5 (.slice (some ⟨w.heap.size, 0, none⟩) n (n + 1)) (l.take n) (by rw [List.length_take]; omega) hsrc)
          clear hsrc
          go_upto_region 14 with (first | (go_at_call 5; refine HCL.out.mono ?_; rintro e w6 ⟨v6, rfl, o6, t6⟩; replace o6 := hide o6; replace t6 := hide t6) | fail)
          have t6' : Tch Non w5 w6 := ⟨t6.out.os, t6.out.tape, t6.out.output, t6.out.size, fun k hk _ => t6.out.block k hk (by simp)⟩
          have o6' : Own .i32 21 w6 w5.heap.size v6 (l.take n) := o6.out
          obtain ⟨a6, n6, c6', e6⟩ := o6'.slice
          subst e6
          have hll : (l.take n).length = n := by rw [List.length_take, HQ2.out.len]; omega
          obtain rfl : n = n6 := by have := o6'.len; omega
          have y5 := (O5.out.lt (g := wC.heap.size) rfl).2
          have z5 := T5.out.size
          have HR0 := hide (show Rel3 wC w.heap.size 0 wC.heap.size n m A (.slice a6 n c6') 0 w6 from ⟨_, _, o6'.mono (by omega), (O5.out.keep t6').mono (by omega), Fil.start HQ2.out (by rw [List.length_replicate]; exact H.out.1.symm), T5.out.also t6'⟩)
          have h6l : ∀ g, (Value.slice a6 n c6').ownBlock = some g → wC.heap.size < g := fun g hg => by have := (o6'.lt hg).1; omega
          have H6L := hide h6l
          clear t6 t6' o6 o6' O5 T5 HCL h6l hll y5 z5
          generalize hgh : wC.heap.size = gh at *
          have HGH := hide hgh
          clear hgh
          go_wp2_with fail
          go_loopw [55] (fun t wr => ∃ k : Nat, k ≤ m ∧ t = .int .i64 k ∧ Rel3 wC w.heap.size 0 gh n m A (.slice a6 n c6') k wr) (fun t _ => m - (intOf t).toNat)
          case atStart => exact ⟨0, Nat.zero_le _, rfl, HR0.out⟩
          case round =>
            clear HR0
            obtain ⟨k, hk, rfl, fl, hl, q1, q2, q4, q5⟩ := hrel
            by_cases hlt : k < m
            · obtain ⟨⟨f, t⟩, hx⟩ : ∃ x, A[k]? = some x := ⟨A[k]'(by rw [H.out.1]; exact hlt), List.getElem?_eq_getElem _⟩
              have hrg := HA.out f t (List.mem_of_getElem? hx)
              obtain ⟨b, rfl, c1, c2⟩ := ((H.out.keep HQ3.out).keep q5).2 k f t hx
              obtain ⟨gf, rfl⟩ : ∃ gf, a6 = some ⟨gf, 0, none⟩ := by
                rcases q1.form with ⟨e, _⟩ | ⟨g, cap, e, _⟩
                · cases e; omega
                · injection e with e1; exact ⟨g, e1⟩
              have hgfl : gh < gf := H6L.out gf rfl
              have hfat := q4.fat f hrg.1
              have hpl := place_lt (fsOf_at hx)
              rw [HFL.out] at hpl
              have HST := hide (fun x hx' => q4.step (x := x) hx hrg.1 hx')
              generalize hxx : below (fsOf A) f + ((fsOf A).take k).count f = x at *
              have bx := Blk.new wr #[.int .i32 (f : Int), .int .i32 (t : Int)] 96
              have q1' := q1.alloc (.cells #[.int .i32 (f : Int), .int .i32 (t : Int)] 96)
              have q2' := q2.alloc (.cells #[.int .i32 (f : Int), .int .i32 (t : Int)] 96)
              have q5' := q5.alloc (.cells #[.int .i32 (f : Int), .int .i32 (t : Int)] 96)
              have hg1 := (q1.lt (g := gf) rfl).2
              have hg2 := (q2.lt (g := gh) rfl).2
              have e1 : (f : Int) < (n : Int) := by omega
              have e2 : (x : Int) < (m : Int) := by omega
              clear q1 q2 q4 q5 hx hxx
              go_upto_region 17 with fail
              generalize wr.alloc (.cells #[.int .i32 (f : Int), .int .i32 (t : Int)] 96) = W1 at *
              have cF := q1'.at hfat
              obtain ⟨v7, hv7, c7⟩ := q2'.cell (i := x) (by rw [q2'.len]; exact hpl)
              have z7 := q2'.frozen x
              have l0 : W1.cell? ⟨wr.heap.size, 0, none⟩ = some (.int .i32 (f : Int)) := bx.cell 0
              have l1 : W1.cell? ⟨wr.heap.size, 1, none⟩ = some (.int .i32 (t : Int)) := bx.cell 1
              have P1 := q1'.setOff (p := ⟨gh, x, none⟩) (.int .i32 (t : Int)) (by intro e; have e' : gf = gh := Option.some.inj e; omega)
              have P2 := q2'.set x (t : Int)
              have P4 := q5'.setCell (p := ⟨gh, x, none⟩) (.inr (by rw [HGH.out]; exact Nat.le_refl _)) (.int .i32 (t : Int))
              have P5 := (bx.other (p := ⟨gh, x, none⟩) (by show wr.heap.size ≠ gh; omega) (.int .i32 (t : Int))).cell 0
              have HP := hide (And.intro P1 (And.intro P2 (And.intro P4 (And.intro P5 (P1.at hfat)))))
              clear P1 P2 P4 P5 q1' q2' q5' bx hv7
              generalize hbb : wr.heap.size = bb at *
              go_cut [11] (fun v wx => v = .pointer (some ⟨bb, 0, none⟩) ∧ Own .i32 21 wx w.heap.size (.slice (some ⟨gf, 0, none⟩) n c6') fl ∧ Own .i32 21 wx w.heap.size (.slice (some ⟨gh, 0, none⟩) m m) (hl.set x (t : Int)) ∧ Tch Non wC wx ∧ wx.cell? ⟨bb, 0, none⟩ = some (.int .i32 (f : Int)) ∧ wx.cell? ⟨gf, f, none⟩ = some (.int .i32 (x : Int)))
              case first =>
                go_region
                all_goals
                  go_wp2_with fail
                  go_meet
                  case rel =>
                    obtain ⟨P1, P2, P4, P5, P6⟩ := HP.out
                    exact ⟨rfl, P1.keep ⟨rfl, rfl, rfl, Nat.le_refl _, fun _ _ _ => rfl⟩, P2.keep ⟨rfl, rfl, rfl, Nat.le_refl _, fun _ _ _ => rfl⟩, P4.also ⟨rfl, rfl, rfl, Nat.le_refl _, fun _ _ _ => rfl⟩, P5, P6⟩
              case rest =>
                obtain ⟨rfl, P1, P2, P4, P5, P6⟩ := hcut
                have z1 := P1.frozen f
                have HS := hide (show Rel3 wC w.heap.size 0 gh n m A (.slice (some ⟨gf, 0, none⟩) n c6') (k + 1) (wc.setCell ⟨gf, f, none⟩ (.int .i32 ((x : Int) + 1))) from ⟨_, _, P1.set f _, P2.setOff (p := ⟨gf, f, none⟩) _ (by intro e; have e' : gh = gf := Option.some.inj e; omega), HST.out x rfl, P4.setCell (p := ⟨gf, f, none⟩) (.inr (by rw [HGH.out]; show gh ≤ gf; omega)) _⟩)
                clear P1 P2 P4 HP
                go_wp2_with fail
                go_roundw
                case rel => exact ⟨k + 1, by omega, rfl, HS.out⟩
                case measure => simp [intOf]; omega
            · obtain rfl : m = k := by omega
              have Q := hide (And.intro (HQ1.out.keep q5) (And.intro q2 (And.intro q4 (HQ3.out.also q5))))
              clear q1 q2 q4 q5
              go_wp2_with fail
              go_ret2
              obtain ⟨x1, x2, x3, x4⟩ := Q.out
              exact ⟨_, _, l, hl, rfl, x1, x2, (by rw [← H.out.1] at x3; exact x3.csr HQ2.out), x4⟩
end Go.Proofs.Ybulkaxc.Gr
