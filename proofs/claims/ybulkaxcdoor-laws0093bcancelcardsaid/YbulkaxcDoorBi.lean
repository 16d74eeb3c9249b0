/-
  roundSearch.backIndex, by contract.
-/
import Derived.Test.YbulkaxcDoorBi0
import Derived.Test.YbulkaxcDoorFwd
namespace Go.Proofs.YbulkaxcDoor.Bi
open Go Go.RowKit Go.Proofs.YbulkaxcDoor.Mem Go.Proofs.YbulkaxcDoor.Pl Go.Proofs.YbulkaxcDoor.RS Go.Proofs.YbulkaxcDoor.Dg Go.Proofs.YbulkaxcDoor.Sr Go.Proofs.YbulkaxcDoor.Fwd
set_option linter.unusedVariables false

theorem size21 : (Ybad.prog.info? 21).map (·.size) = some 1 := by kernel_rfl

/-- The index stands. -/
def Done (A : List (Nat × Nat)) (n m : Nat) (s : Rs) : Prop :=
  ∃ gi gt A', s.vi = .slice (some ⟨gi, 0, none⟩) (2 * n + 1) (2 * n + 1) ∧ s.vt = .slice (some ⟨gt, 0, none⟩) m m ∧ (∀ a b, (a, b) ∈ A' ↔ (b, a) ∈ A) ∧ A'.length = m ∧ CSR A' (2 * n) s.into s.tls

theorem places_is (w : World) (gd n : Nat) (a6 : Option Addr) (cs : Nat) (hs : w.cell? ⟨gd, 6, none⟩ = some (.slice a6 (2 * n + 1) cs)) (hn : n ≤ 8) :
    Calls Ybad.prog 27 #[.pointer (some ⟨gd, 0, none⟩)] w fun e w' => e = .returned (.int .i32 (2 * (n : Int))) ∧ w = w' := by
  refine (Small.places_any gd a6 (2 * n + 1) cs w hs (by omega) (by omega)).mono fun e w' ⟨h1, h2⟩ => ⟨?_, h2.symm⟩
  rw [h1, show ((2 * n + 1 : Nat) : Int) - 1 = 2 * (n : Int) by omega]

theorem equalIn_slice (w : World) (d : Nat) (a : Option Addr) (n c : Nat) : (Op.equalIn (d + 1) 24 (.slice a n c) (.slice none 0 0)).run Ybad.prog w = .ok a.isNone w := by
  cases a <;> simp [Op.equalIn, run_underlying Ybad.underlying24]
theorem neq_nil (w : World) : (binOp .neq 24 (.slice none 0 0) (.slice none 0 0)).run Ybad.prog w = .ok (.bool false) w := by
  simp only [binOp]
  simp [Op.equal, Op.maxDepth, equalIn_slice w 9999 none 0 0]
theorem neq_some (w : World) (a : Addr) (n c : Nat) : (binOp .neq 24 (.slice (some a) n c) (.slice none 0 0)).run Ybad.prog w = .ok (.bool true) w := by
  simp only [binOp]
  simp [Op.equal, Op.maxDepth, equalIn_slice w 9999 (some a) n c]

def RelI (w : World) (tag : Nat → Nat) (B grs gd n : Nat) (s : Rs) (VI : Value) (fs : List Nat) (k : Nat) (wr : World) : Prop :=
  ∃ tag' l, RS wr B grs gd (2 * n) tag' { s with into := l, vi := VI } ∧ TT tag w tag' wr ∧ Cnt fs (2 * n) k l
def RelP (w : World) (tag : Nat → Nat) (B grs gd n : Nat) (s : Rs) (VI : Value) (fs : List Nat) (k : Nat) (wr : World) : Prop :=
  ∃ tag' l, RS wr B grs gd (2 * n) tag' { s with into := l, vi := VI } ∧ TT tag w tag' wr ∧ Pre fs (2 * n) k l
def RelF (w : World) (tag : Nat → Nat) (B grs gd n gf : Nat) (s : Rs) (VI VT : Value) (A' : List (Nat × Nat)) (k : Nat) (wr : World) : Prop :=
  ∃ tag' l tl fl, RS wr B grs gd (2 * n) tag' { s with into := l, vi := VI, tls := tl, vt := VT } ∧ TT tag w tag' wr ∧ Pre (fsOf A') (2 * n) (2 * n) l ∧ Own .i32 21 wr B (.slice (some ⟨gf, 0, none⟩) (2 * n) (2 * n)) fl ∧ tag' gf = 0 ∧ Fil A' (2 * n) k fl tl

set_option maxRecDepth 10000 in
set_option maxHeartbeats 2000000 in
theorem backIndex_new (w : World) (B grs gd gg ga gh gs n m cl : Nat) (al : Option Addr) (tag : Nat → Nat) (s : Rs) (A : List (Nat × Nat)) (st hd : List Int) (h : RS w B grs gd (2 * n) tag s) (d : DG w tag gd gg ga gh gs n m al cl A st hd) (ev : s.vi = .slice none 0 0) :
    Calls Ybad.prog 26 #[.pointer (some ⟨grs, 0, none⟩)] w fun e w' => ∃ v tag' into vi tls vt, e = .returned v ∧ RS w' B grs gd (2 * n) tag' { s with into := into, vi := vi, tls := tls, vt := vt } ∧ TT tag w tag' w' ∧ Done A n m { s with into := into, vi := vi, tls := tls, vt := vt } := by
  obtain ⟨i0, hi, hz0, hz1, hz2⟩ := info_parts info21
  obtain ⟨A', hrev⟩ := rev d.csr d.hA
  have k0 : w.cell? ⟨grs, 0, none⟩ = some (.pointer (some ⟨gd, 0, none⟩)) := h.blk.cell 0
  have k6 : w.cell? ⟨grs, 6, none⟩ = some (.slice none 0 0) := (h.blk.cell 6).trans (by rw [← ev]; rfl)
  have hpl := places_is w gd n _ _ d.c6.1 d.hn
  have hn := d.hn
  have hn1 := d.hn1
  have hm := d.hm
  have hB := h.hB
  have HPL := hide hpl
  have HR := hide h
  have HD := hide d
  have HV := hide hrev
  clear h d ev hpl hrev
  have qn := neq_nil
  go_enter Ybad.func26, Ybad.ntmps26
  go_upto_region 3 with (first
    | (go_at_call 27; refine HPL.out.mono ?_; rintro e w' ⟨rfl, rfl⟩)
    | (refine wpList_make_full _ rfl (.tmp 24) (.tmp 24) 24 rfl w.heap.size 21 i0 (.int .i32 0) 1 Ybad.underlying24 hi hz0 hz1 .i32 .i32 _ _ (2 * n + 1) rfl rfl (by omega) (by omega) (by rw [hz2]; omega) (by unfold maxLen; omega) (Nat.le_refl _) ?_; intro w1 hown1 hgr1; have t1 : Tch Non w w1 := (Tch.refl _ _).of_grownBy hgr1 (by simp); have hb1 := HR.out.blk.keep t1; have kk : w1.cell? ⟨grs, 6, none⟩ = some s.vi := hb1.cell 6; have kf := hb1.frozen 6; have O1 := hide (Own.made hown1); have T1 := hide t1; clear hown1 hgr1 t1 hb1))
  have R0 : RelI w tag B grs gd n s (.slice (some ⟨w.heap.size, 0, none⟩) (2 * n + 1) (2 * n + 1)) (fsOf A') 0 (w1.setCell ⟨grs, 6, none⟩ (.slice (some ⟨w.heap.size, 0, none⟩) (2 * n + 1) (2 * n + 1))) := by
    obtain ⟨tag1, q1, q2⟩ := putVi HR.out (.slice (some ⟨w.heap.size, 0, none⟩) (2 * n + 1) (2 * n + 1)) _ T1.out (fun g hg => Nat.le_of_eq (Option.some.inj hg)) (O1.out.mono hB)
    exact ⟨tag1, _, q1, q2, Cnt.start _ _⟩
  have HR0 := hide R0
  generalize w1.setCell ⟨grs, 6, none⟩ (.slice (some ⟨w.heap.size, 0, none⟩) (2 * n + 1) (2 * n + 1)) = W at *
  generalize hgi : w.heap.size = gi at *
  have HGI := hide hgi
  clear R0 hgi k0 k6 kk kf O1 T1 HPL
  obtain ⟨tagX, lX, x1, x2, x3⟩ := HR0.out
  have d5 := (HD.out.tt x2).c5.1
  clear x1 x2 x3 tagX lX
  have hAm : A.length = m := HD.out.lenA
  have hfl : (fsOf A').length = m := by unfold fsOf; rw [List.length_map, HV.out.len]; exact hAm
  have HL := hide (And.intro hAm hfl)
  clear hAm hfl
  go_wp2_with fail
  go_loopw [33] (fun t wr => ∃ k : Nat, k ≤ m ∧ t = .int .i64 k ∧ RelI w tag B grs gd n s (.slice (some ⟨gi, 0, none⟩) (2 * n + 1) (2 * n + 1)) (fsOf A') k wr) (fun t _ => m - (intOf t).toNat)
  case atStart => exact ⟨0, Nat.zero_le _, rfl, HR0.out⟩
  case round =>
    clear HR0 d5
    obtain ⟨k, hk, rfl, tag1, l, q1, q2, q3⟩ := hrel
    by_cases hlt : k < m
    · obtain ⟨t, hfs, hhd, htP⟩ := HV.out.ofs k (by rw [HL.out.1]; exact hlt)
      have ch := ((HD.out.tt q2).vh k _ hhd).1
      have k6 : wr.cell? ⟨grs, 6, none⟩ = some (.slice (some ⟨gi, 0, none⟩) (2 * n + 1) (2 * n + 1)) := q1.blk.cell 6
      have o6 : Own .i32 21 wr B (.slice (some ⟨gi, 0, none⟩) (2 * n + 1) (2 * n + 1)) l := q1.own 6
      have c6 := o6.at (q3.at_ t htP)
      have z6 := o6.frozen (t + 1)
      obtain ⟨tag2, q4, q5⟩ := putInto q1 (show _ = Value.slice (some ⟨gi, 0, none⟩) (2 * n + 1) (2 * n + 1) from rfl) (t + 1) ((((fsOf A').take k).count t : Nat) + 1 : Int)
      have HS := hide (show RelI w tag B grs gd n s (.slice (some ⟨gi, 0, none⟩) (2 * n + 1) (2 * n + 1)) (fsOf A') (k + 1) _ from ⟨tag2, _, q4, q2.trans q5, q3.step hfs htP⟩)
      have hcb : ((fsOf A').take k).count t ≤ k := Nat.le_trans List.count_le_length (by rw [List.length_take]; omega)
      generalize ((fsOf A').take k).count t = c at *
      clear q1 q2 q3 q4 q5 o6 hfs hhd
      have e1 : (t : Int) < 2 * (n : Int) := by omega
      go_wp2_with fail
      go_roundw
      case rel => exact ⟨k + 1, by omega, rfl, HS.out⟩
      case measure => simp [intOf]; omega
    · obtain rfl : m = k := by omega
      have hpl := places_is wr gd n _ _ (HD.out.tt q2).c6.1 hn
      have HPL := hide hpl
      have HP0 := hide (show RelP w tag B grs gd n s (.slice (some ⟨gi, 0, none⟩) (2 * n + 1) (2 * n + 1)) (fsOf A') 0 wr from ⟨tag1, l, q1, q2, Cnt.pre (by rw [HL.out.2]; exact q3)⟩)
      clear q1 q2 q3 hpl hlt
      go_wp2_with (first | (go_at_call 27; refine HPL.out.mono ?_; rintro e w' ⟨rfl, rfl⟩) | fail)
      clear HPL
      go_loopw [50] (fun t wr => ∃ k : Nat, k ≤ 2 * n ∧ t = .int .i32 k ∧ RelP w tag B grs gd n s (.slice (some ⟨gi, 0, none⟩) (2 * n + 1) (2 * n + 1)) (fsOf A') k wr) (fun t _ => 2 * n - (intOf t).toNat)
      case atStart => exact ⟨0, Nat.zero_le _, rfl, HP0.out⟩
      case round =>
        clear HP0
        obtain ⟨q, hq, rfl, tag1, l, q1, q2, q3⟩ := hrel
        by_cases hlt : q < 2 * n
        · have k6 : wr.cell? ⟨grs, 6, none⟩ = some (.slice (some ⟨gi, 0, none⟩) (2 * n + 1) (2 * n + 1)) := q1.blk.cell 6
          have o6 : Own .i32 21 wr B (.slice (some ⟨gi, 0, none⟩) (2 * n + 1) (2 * n + 1)) l := q1.own 6
          have c6 := o6.at (q3.hi q (Nat.le_refl _) hlt)
          have c7 := o6.at (q3.lo q (Nat.le_refl _))
          have z6 := o6.frozen (q + 1)
          obtain ⟨tag2, q4, q5⟩ := putInto q1 (show _ = Value.slice (some ⟨gi, 0, none⟩) (2 * n + 1) (2 * n + 1) from rfl) (q + 1) (((fsOf A').count q : Nat) + (below (fsOf A') q : Nat) : Int)
          have HS := hide (show RelP w tag B grs gd n s (.slice (some ⟨gi, 0, none⟩) (2 * n + 1) (2 * n + 1)) (fsOf A') (q + 1) _ from ⟨tag2, _, q4, q2.trans q5, q3.step hlt⟩)
          have hb1 := below_le (fsOf A') (q + 1)
          rw [below_succ, HL.out.2] at hb1
          generalize (fsOf A').count q = c at *
          generalize below (fsOf A') q = b at *
          clear q1 q2 q3 q4 q5 o6
          have e1 : (q : Int) < 2 * (n : Int) + 1 := by omega
          have e2 : (q : Int) + 1 < 2 * (n : Int) + 1 := by omega
          go_wp2_with fail
          go_region
          all_goals
            go_wp2_with fail
            go_roundw
            case rel =>
              obtain ⟨tag3, l3, r1, r2, r3⟩ := HS.out
              exact ⟨q + 1, by omega, by go_num, tag3, l3, r1.keep ⟨rfl, rfl, rfl, Nat.le_refl _, fun _ _ _ => rfl⟩, r2.trans (TT.keep ⟨rfl, rfl, rfl, Nat.le_refl _, fun _ _ _ => rfl⟩), r3⟩
            case measure => simp [intOf]; omega
        · obtain rfl : q = 2 * n := by omega
          have d5 := (HD.out.tt q2).c5.1
          have hB1 := q1.hB
          have HQ1 := hide q1
          have HQ2 := hide q2
          have HQ3 := hide q3
          clear q1 q2 q3 hlt
          go_upto_region 14 with (first
            | (refine wpList_make_full _ rfl (.tmp 76) (.tmp 76) 24 rfl wr.heap.size 21 i0 (.int .i32 0) 1 Ybad.underlying24 hi hz0 hz1 .i64 .i64 _ _ m rfl rfl rfl rfl (by rw [hz2]; omega) (by unfold maxLen; omega) (Nat.le_refl _) ?_; intro w3 hown3 hgr3; have t3 : Tch Non wr w3 := (Tch.refl _ _).of_grownBy hgr3 (by simp); have hb3 := HQ1.out.blk.keep t3; have kk : w3.cell? ⟨grs, 7, none⟩ = some s.vt := hb3.cell 7; have kf := hb3.frozen 7; have O3 := hide (Own.made hown3); have T3 := hide t3; clear hown3 hgr3 t3 hb3))
          obtain ⟨tag4, q4, q5⟩ := putVt HQ1.out (.slice (some ⟨wr.heap.size, 0, none⟩) m m) _ T3.out (fun g hg => Nat.le_of_eq (Option.some.inj hg)) (O3.out.mono hB1)
          obtain ⟨tag5, q6, q7, q8⟩ := fresh q4
          generalize w3.setCell ⟨grs, 7, none⟩ (.slice (some ⟨wr.heap.size, 0, none⟩) m m) = W4 at *
          generalize wr.heap.size = gt at *
          have HQ4 := hide q6
          have HQ5 := hide ((HQ2.out.trans q5).trans q7)
          have HQ6 := hide (q8 W4.heap.size (Nat.le_refl _))
          have hpl := places_is W4 gd n _ _ (HD.out.tt HQ5.out).c6.1 hn
          have HPL := hide hpl
          have k6 : W4.cell? ⟨grs, 6, none⟩ = some (.slice (some ⟨gi, 0, none⟩) (2 * n + 1) (2 * n + 1)) := q6.blk.cell 6
          clear q4 q5 q6 q7 q8 hpl O3 T3 kk kf HQ1 HQ2 d5
          go_upto_region 15 with (first
            | (go_at_call 27; refine HPL.out.mono ?_; rintro e w' ⟨rfl, rfl⟩)
            | (refine wpList_make_full _ rfl (.tmp 81) (.tmp 81) 24 rfl W4.heap.size 21 i0 (.int .i32 0) 1 Ybad.underlying24 hi hz0 hz1 .i32 .i32 _ _ (2 * n) rfl rfl (by omega) (by omega) (by rw [hz2]; omega) (by unfold maxLen; omega) (Nat.le_refl _) ?_; intro w5 hown5 hgr5; have t5 : Tch Non W4 w5 := (Tch.refl _ _).of_grownBy hgr5 (by simp); have O5 := hide (Own.made hown5); have T5 := hide t5; clear hown5 hgr5 t5))
          have k6' := T5.out.cell k6 (fun h => h)
          go_wp2_with fail
          have hlen : (l.take (2 * n)).length = 2 * n := by rw [List.length_take, HQ3.out.len]; omega
          have hsrc : ∀ (j : Nat) (x : Int), (l.take (2 * n))[j]? = some x → w5.cell? ((⟨gi, 0, none⟩ : Addr).add j) = some (.int .i32 x) := by
            intro j x hx
            have o6 : Own .i32 21 W4 B (.slice (some ⟨gi, 0, none⟩) (2 * n + 1) (2 * n + 1)) l := HQ4.out.own 6
            rw [List.getElem?_take] at hx
            split at hx
            · rw [Go.WideShapes.add_plain, Nat.zero_add]
              exact (o6.keep T5.out).at hx
            · cases hx
          obtain ⟨w6, hr6, o6, t6⟩ := run_copy (P := Ybad.prog) w5 24 3 Ybad.underlying24 size21 (cs := 2 * n + 1) (m := 2 * n + 1) O5.out hlen (by omega) hsrc
          rw [hr6]
          have hsz : w.heap.size ≤ W4.heap.size := HQ5.out.tch.size
          have x1 : RS w6 B grs gd (2 * n) tag5 _ := (HQ4.out.keep T5.out).other t6 HQ6.out
          have x2 : TT tag w tag5 w6 := TT.new (HQ5.out.trans (TT.keep T5.out)) t6 hsz
          have hpl := places_is w6 gd n _ _ (HD.out.tt x2).c6.1 hn
          have hF0 : RelF w tag B grs gd n W4.heap.size s (.slice (some ⟨gi, 0, none⟩) (2 * n + 1) (2 * n + 1)) (.slice (some ⟨gt, 0, none⟩) m m) A' 0 w6 :=
            ⟨tag5, l, _, _, x1, x2, HQ3.out, o6.mono HQ4.out.hB, HQ6.out, Fil.start HQ3.out (by rw [List.length_replicate, HV.out.len]; exact HL.out.1.symm)⟩
          generalize W4.heap.size = gf at *
          have HPL := hide hpl
          have HF0 := hide hF0
          clear hpl hF0 x1 x2 hr6 o6 t6 hlen hsrc k6 k6' HQ4 HQ5 HQ6 O5 T5
          go_wp2_with (first | (go_at_call 27; refine HPL.out.mono ?_; rintro e w' ⟨rfl, rfl⟩) | fail)
          clear HPL
          go_loopw [91] (fun t wr => ∃ p : Nat, p ≤ 2 * n ∧ t = .int .i32 p ∧ RelF w tag B grs gd n gf s (.slice (some ⟨gi, 0, none⟩) (2 * n + 1) (2 * n + 1)) (.slice (some ⟨gt, 0, none⟩) m m) A' (below (fsOf A) p) wr) (fun t _ => 2 * n - (intOf t).toNat)
          case atStart => exact ⟨0, Nat.zero_le _, rfl, by rw [below_zero]; exact HF0.out⟩
          case round =>
            clear HF0
            obtain ⟨p, hp, rfl, hF⟩ := hrel
            by_cases hlt : p < 2 * n
            · obtain ⟨tag1, l1, tl, fl, q1, q2, q3, q4, q5, q6⟩ := hF
              have hfr := from_at (HD.out.tt q2) p hlt
              have HFR := hide hfr
              have HF1 := hide (show RelF w tag B grs gd n gf s (.slice (some ⟨gi, 0, none⟩) (2 * n + 1) (2 * n + 1)) (.slice (some ⟨gt, 0, none⟩) m m) A' (below (fsOf A) p + 0) wr from ⟨tag1, l1, tl, fl, q1, q2, q3, q4, q5, q6⟩)
              clear q1 q2 q3 q4 q5 q6 hfr
              have hkb := below_succ (fsOf A) p
              generalize hK : below (fsOf A) (p + 1) - below (fsOf A) p = K at *
              have HKK := hide (And.intro hK hkb)
              have hK2 : K ≤ 2000 := by have := below_le (fsOf A) (p + 1); have h2 : (fsOf A).length = m := by (unfold fsOf; rw [List.length_map]; exact HL.out.1)
                                        omega
              clear hK hkb
              go_wp2_with (first | (go_at_call 17; refine HFR.out.mono ?_; rintro e w' ⟨va, o, c, rfl, hcell, q, rfl⟩; replace hcell := hide hcell) | fail)
              go_loopw [102] (fun t wi => ∃ j : Nat, j ≤ K ∧ t = .int .i64 j ∧ RelF w tag B grs gd n gf s (.slice (some ⟨gi, 0, none⟩) (2 * n + 1) (2 * n + 1)) (.slice (some ⟨gt, 0, none⟩) m m) A' (below (fsOf A) p + j) wi) (fun t _ => K - (intOf t).toNat)
              case atStart =>
                obtain ⟨tag1, l1, tl, fl, q1, q2, q3, q4, q5, q6⟩ := HF1.out
                exact ⟨0, Nat.zero_le _, rfl, tag1, l1, tl, fl, q1.drewN _, q2.drewN _, q3, q4.drewN _, q5, q6⟩
              case round =>
                clear HF1 HFR
                obtain ⟨j, hj, rfl, tag1, l1, tl, fl, q1, q2, q3, q4, q5, q6⟩ := hrel
                by_cases hjk : j < K
                · have hkk := HKK.out.1
                  obtain ⟨t, hAt, hhd, htP⟩ := HV.out.at_ p (below (fsOf A) p + j) hlt (by omega) (by omega)
                  have ch : wr.cell? ⟨gh, o + j, none⟩ = some (.int .i32 t) := by rw [hcell.out j hjk]; exact ((HD.out.tt q2).vh _ _ hhd).1
                  have hfat := q6.fat t htP
                  have hpl := place_lt (fsOf_at hAt)
                  rw [HL.out.2] at hpl
                  have HST := hide (fun x hx => q6.step (x := x) hAt htP hx)
                  generalize hxx : below (fsOf A') t + ((fsOf A').take (below (fsOf A) p + j)).count t = x at *
                  have HXX := hide hxx.symm
                  have cF := q4.at hfat
                  have zF := q4.frozen t
                  have k7 : wr.cell? ⟨grs, 7, none⟩ = some (.slice (some ⟨gt, 0, none⟩) m m) := q1.blk.cell 7
                  have o7 : Own .i32 21 wr B (.slice (some ⟨gt, 0, none⟩) m m) tl := q1.own 7
                  obtain ⟨v7, hv7, c7⟩ := o7.cell (i := x) (by rw [o7.len]; exact hpl)
                  have z7 := o7.frozen x
                  have hgt : tag1 gt = 7 := q1.tv 7 gt rfl
                  have hne : gf ≠ gt := fun e => by rw [e, hgt] at q5; omega
                  have hgfl := (q4.lt (g := gf) rfl).2
                  obtain ⟨tag2, r1, r2⟩ := putTls q1 (show _ = Value.slice (some ⟨gt, 0, none⟩) m m from rfl) x (p : Int)
                  have HO := hide (q4.setOff (p := ⟨gt, x, none⟩) (.int .i32 (p : Int)) (by simpa [Value.ownBlock] using hne))
                  have HCF := hide (HO.out.at hfat)
                  have HT2 := hide ((r2.old gf hgfl).trans q5)
                  have HR1 := hide r1
                  have HR2 := hide (q2.trans r2)
                  have HQ3 := hide q3
                  have HNE := hide hne
                  have HSZ := hide (show w.heap.size ≤ gf from hsz)
                  clear q1 q2 q3 q4 q5 q6 hfat hxx o7 hv7 hgt hne r1 r2 hAt hhd hkk
                  go_upto_region 23 with fail
                  go_cut [11] (fun v wx => v = .int .i32 (t : Int) ∧ RS wx B grs gd (2 * n) tag2 { s with into := l1, vi := .slice (some ⟨gi, 0, none⟩) (2 * n + 1) (2 * n + 1), tls := tl.set x (p : Int), vt := .slice (some ⟨gt, 0, none⟩) m m } ∧ TT tag w tag2 wx ∧ Own .i32 21 wx B (.slice (some ⟨gf, 0, none⟩) (2 * n) (2 * n)) fl ∧ wx.cell? ⟨gf, t, none⟩ = some (.int .i32 (x : Int)))
                  case first =>
                    go_region
                    all_goals
                      go_wp2_with fail
                      go_meet
                      case rel => exact ⟨rfl, HR1.out.keep ⟨rfl, rfl, rfl, Nat.le_refl _, fun _ _ _ => rfl⟩, HR2.out.trans (TT.keep ⟨rfl, rfl, rfl, Nat.le_refl _, fun _ _ _ => rfl⟩), HO.out.keep ⟨rfl, rfl, rfl, Nat.le_refl _, fun _ _ _ => rfl⟩, HCF.out⟩
                  case rest =>
                    obtain ⟨rfl, q1, q2, q4, cF2⟩ := hcut
                    have zF2 := q4.frozen t
                    have t9 := (Tch.refl (fun y => y = gf) wc).setCell (p := ⟨gf, t, none⟩) (.inl rfl) (.int .i32 ((x : Int) + 1))
                    have HS := hide (show RelF w tag B grs gd n gf s (.slice (some ⟨gi, 0, none⟩) (2 * n + 1) (2 * n + 1)) (.slice (some ⟨gt, 0, none⟩) m m) A' (below (fsOf A) p + (j + 1)) _ from ⟨tag2, l1, _, _, q1.other t9 HT2.out, TT.new q2 t9 HSZ.out, HQ3.out, q4.set t ((x : Int) + 1), HT2.out, HST.out x rfl⟩)
                    clear q1 q2 q4 t9 HR1 HR2 HO cF zF ch c7 z7 k7
                    go_wp2_with fail
                    go_roundw
                    case rel => exact ⟨j + 1, by omega, rfl, HS.out⟩
                    case measure => simp [intOf]; omega
                · obtain rfl : j = K := by omega
                  have HF2 := hide (show RelF w tag B grs gd n gf s (.slice (some ⟨gi, 0, none⟩) (2 * n + 1) (2 * n + 1)) (.slice (some ⟨gt, 0, none⟩) m m) A' (below (fsOf A) (p + 1)) wr from by
                    have := HKK.out.1
                    have e : below (fsOf A) p + j = below (fsOf A) (p + 1) := by have := HKK.out.2; omega
                    rw [← e]
                    exact ⟨tag1, l1, tl, fl, q1, q2, q3, q4, q5, q6⟩)
                  clear q1 q2 q3 q4 q5 q6
                  go_wp2_with fail
                  go_roundw
                  case rel => exact ⟨p + 1, by omega, rfl, HF2.out⟩
                  case measure => simp [intOf]; omega
            · obtain rfl : p = 2 * n := by omega
              obtain ⟨tag1, l1, tl, fl, q1, q2, q3, q4, q5, q6⟩ := hF
              have HQ1 := hide q1
              have HQ2 := hide q2
              have HQ := hide (And.intro q3 q6)
              clear q1 q2 q3 q4 q5 q6
              go_wp2_with fail
              first | go_end0 | refine bodyPost_ret (results_none rfl _ _ _) rfl ?_
              refine ⟨_, tag1, l1, _, tl, _, rfl, HQ1.out, HQ2.out, gi, gt, A', rfl, rfl, HV.out.mem, by rw [HV.out.len]; exact HL.out.1, ?_⟩
              have h1 := HQ.out.2
              rw [below_all (fun a b hab => (HD.out.hA a b hab).1), ← HV.out.len] at h1
              exact h1.csr HQ.out.1

set_option maxHeartbeats 400000 in
theorem backIndex_any (w : World) (B grs gd gg ga gh gs n m cl : Nat) (al : Option Addr) (tag : Nat → Nat) (s : Rs) (A : List (Nat × Nat)) (st hd : List Int) (h : RS w B grs gd (2 * n) tag s) (d : DG w tag gd gg ga gh gs n m al cl A st hd) (hix : s.vi = .slice none 0 0 ∨ Done A n m s) :
    Calls Ybad.prog 26 #[.pointer (some ⟨grs, 0, none⟩)] w fun e w' => ∃ v tag' into vi tls vt, e = .returned v ∧ RS w' B grs gd (2 * n) tag' { s with into := into, vi := vi, tls := tls, vt := vt } ∧ TT tag w tag' w' ∧ Done A n m { s with into := into, vi := vi, tls := tls, vt := vt } := by
  rcases hix with hv | hv
  · exact backIndex_new w B grs gd gg ga gh gs n m cl al tag s A st hd h d hv
  · have hv' := hv
    obtain ⟨gi, gt, A', e1, e2, e3⟩ := hv'
    have k6 : w.cell? ⟨grs, 6, none⟩ = some (.slice (some ⟨gi, 0, none⟩) (2 * n + 1) (2 * n + 1)) := (h.blk.cell 6).trans (by rw [← e1]; rfl)
    have qn := neq_some
    have HR := hide h
    have HV := hide hv
    clear h d hv e1 e2 e3
    go_enter Ybad.func26, Ybad.ntmps26
    go_wp2_with fail
    first | go_end0 | refine bodyPost_ret (results_none rfl _ _ _) rfl ?_
    exact ⟨_, tag, s.into, s.vi, s.tls, s.vt, rfl, HR.out, TT.refl _ _, HV.out⟩
end Go.Proofs.YbulkaxcDoor.Bi
