/-
  The test that 'any' hands to 'crossings', by contract.
-/
import Derived.Test.YbulkaxcDoorReaching
import Derived.Test.YbulkaxcDoorLeads
namespace Go.Proofs.YbulkaxcDoor.Any1
open Go Go.RowKit Go.Proofs.YbulkaxcDoor.Mem Go.Proofs.YbulkaxcDoor.Pl Go.Proofs.YbulkaxcDoor.RS Go.Proofs.YbulkaxcDoor.Dg Go.Proofs.YbulkaxcDoor.Sr Go.Proofs.YbulkaxcDoor.Back
open Go.Proofs.YbulkaxcDoor.Bi (Done)
open Go.Proofs.YbulkaxcDoor.Near (upto upto_len upto_at nearer_any)
open Go.Proofs.YbulkaxcDoor.Leads (leads_any LRet LPost)
open Go.Proofs.YbulkaxcDoor.Reaching (reaching_any)
set_option linter.unusedVariables false

/-- The search is in order. -/
structure Good (w : World) (B grs gd n m gr go gb cr co cb : Nat) (tag : Nat → Nat) (A : List (Nat × Nat)) (s : Rs) : Prop where
  rs : RS w B grs gd (2 * n) tag s
  er : s.vr = .slice (some ⟨gr, 0, none⟩) (2 * n) cr
  eo : s.vo = .slice (some ⟨go, 0, none⟩) (2 * n) co
  eb : s.vb = .slice (some ⟨gb, 0, none⟩) (2 * n) cb
  ix : s.vi = .slice none 0 0 ∨ Done A n m s
  lo : ∀ (i : Nat) (v : Int), s.onw[i]? = some v → v ≤ s.srch
  lb : ∀ (i : Nat) (v : Int), s.beh[i]? = some v → v ≤ s.srch
  s0 : 0 ≤ s.srch
theorem Good.keep {w w' : World} {B grs gd n m gr go gb cr co cb : Nat} {tag : Nat → Nat} {A : List (Nat × Nat)} {s : Rs} (h : Good w B grs gd n m gr go gb cr co cb tag A s) (t : Tch Non w w') : Good w' B grs gd n m gr go gb cr co cb tag A s :=
  ⟨h.rs.keep t, h.er, h.eo, h.eb, h.ix, h.lo, h.lb, h.s0⟩
/-- What the test leaves alone. -/
structure Same (s s' : Rs) : Prop where
  vy : s'.vy = s.vy
  ys : s'.ys = s.ys
  va : s'.va = s.va
  nA : s'.nA = s.nA
def A1Ret (w : World) (B grs gd n m gr go gb cr co cb : Nat) (tag : Nat → Nat) (A : List (Nat × Nat)) (s : Rs) (x : Nat) (e : Ending) (w' : World) : Prop :=
  ∃ b s' tag', e = .returned (.bool b) ∧ Good w' B grs gd n m gr go gb cr co cb tag' A s' ∧ TT tag w tag' w' ∧ Same s s' ∧ s'.srch ≤ s.srch + 8 ∧ (b = true ↔ ∃ i y : Nat, s.ys[i]? = some (y : Int) ∧ R A y x)
/-- The rounds of the first loop. -/
def RelL (w : World) (B grs gd n m gr go gb cr co cb : Nat) (tag : Nat → Nat) (A : List (Nat × Nat)) (s : Rs) (VN : Value) (L x k : Nat) (wr : World) : Prop :=
  ∃ s' tag', Good wr B grs gd n m gr go gb cr co cb tag' A s' ∧ TT tag w tag' wr ∧ Same s s' ∧ s'.vn = VN ∧ s'.near = upto L ∧ s'.srch = s.srch + k ∧ ∀ i y : Nat, i < k → s.ys[i]? = some (y : Int) → ¬ R A y x

set_option maxRecDepth 10000 in
set_option maxHeartbeats 2000000 in
theorem any1_any (w : World) (B grs gd gg ga gh gs n m cl gr go gb cr co cb x bb : Nat) (al : Option Addr) (tag : Nat → Nat) (s : Rs) (A : List (Nat × Nat)) (st hd : List Int) (h : Good w B grs gd n m gr go gb cr co cb tag A s) (d : DG w tag gd gg ga gh gs n m al cl A st hd)
    (f1 : Fix w tag ⟨bb, 0, none⟩ (.pointer (some ⟨grs, 0, none⟩))) (f2 : Fix w tag ⟨0, 0, none⟩ (.int .i64 8)) (hs1 : s.srch ≤ 900) (hx : x < 2 * n) (hx2 : x % 2 = 0)
    (ay : Option Addr) (L cy : Nat) (ey : s.vy = .slice ay L cy) (hL : L ≤ 2000) (va : Value)
    (hys : ∀ (i : Nat) (v : Int), s.ys[i]? = some v → ∃ y : Nat, v = (y : Int) ∧ y < 2 * n ∧ y % 2 = 0) :
    Calls Ybad.prog 10 #[.int .i32 (x : Int), .slice ay L cy, va, .pointer (some ⟨bb, 0, none⟩)] w fun e w' => A1Ret w B grs gd n m gr go gb cr co cb tag A s x e w' := by
  have hys' : ∀ (i : Nat) (v : Int), s.ys[i]? = some v → ∃ y : Nat, v = (y : Int) ∧ y < 2 * n := fun i v hv => by obtain ⟨y, h1, h2, _⟩ := hys i v hv; exact ⟨y, h1, h2⟩
  have HNR := hide (nearer_any w B grs gd n gr cr x tag s h.rs h.er ay L cy ey d.hn hx hL hys')
  have l1 := f1.1
  have hn := d.hn
  have HG := hide h
  have HD := hide d
  have HF1 := hide f1
  have HF2 := hide f2
  have HEY := hide ey
  have HYS := hide hys
  have HYS' := hide hys'
  clear h d f1 f2 ey hys hys'
  go_enter Ybad.func10, Ybad.ntmps10
  go_upto_region 2 with (first | (go_at_call 11; refine HNR.out.mono ?_; rintro e w1 ⟨tag1, vn, rfl, q1, q2⟩; replace q1 := hide q1; replace q2 := hide q2))
  obtain ⟨an, nn, cn, en⟩ := (show Own .i64 3 w1 B vn (upto L) from q1.out.own 10).slice
  subst en
  obtain rfl : L = nn := by have : Own .i64 3 w1 B (.slice an nn cn) (upto L) := q1.out.own 10; have h1 := this.len; rw [upto_len] at h1; exact h1
  have l1 := (HF1.out.tt q2.out).1
  have l2 := (HF2.out.tt q2.out).1
  generalize hs1' : ({ s with near := upto L, vn := .slice an L cn } : Rs) = s1 at *
  have hg1 : Good w1 B grs gd n m gr go gb cr co cb tag1 A s1 := by
    have r := q1.out
    subst hs1'
    exact ⟨r, HG.out.er, HG.out.eo, HG.out.eb, HG.out.ix, HG.out.lo, HG.out.lb, HG.out.s0⟩
  have hsm : Same s s1 ∧ s1.vn = .slice an L cn ∧ s1.near = upto L ∧ s1.srch = s.srch := by subst hs1'; exact ⟨⟨rfl, rfl, rfl, rfl⟩, rfl, rfl, rfl⟩
  have HG1 := hide hg1
  have HSM := hide hsm
  have hs2 : s1.srch ≤ 1000 := by rw [hsm.2.2.2]; omega
  clear hg1 hsm hs1' q1 HNR HG
  by_cases h8 : L ≤ 8
  · have b8 : decide ((L : Int) ≤ 8) = true := by simp; omega
    have HR0 := hide (show RelL w B grs gd n m gr go gb cr co cb tag A s (.slice an L cn) L x 0 w1 from ⟨s1, tag1, HG1.out, q2.out, HSM.out.1, HSM.out.2.1, HSM.out.2.2.1, by rw [HSM.out.2.2.2]; simp, fun i y hi => by omega⟩)
    go_wp2_with fail
    go_loopw [23] (fun t wr => ∃ k : Nat, k ≤ L ∧ t = .int .i64 k ∧ RelL w B grs gd n m gr go gb cr co cb tag A s (.slice an L cn) L x k wr) (fun t _ => L - (intOf t).toNat)
    case atStart => exact ⟨0, Nat.zero_le _, rfl, HR0.out⟩
    case round =>
      clear HR0 l1 l2 HG1 HSM
      obtain ⟨k, hk, rfl, s2, tag2, g1, g2, g3, g4, g5, g6, g7⟩ := hrel
      by_cases hlt : k < L
      · have oy : Own .i32 21 wr B (.slice ay L cy) s.ys := by have := g1.rs.own 8; unfold Rs.own at this; rw [g3.vy, g3.ys, HEY.out] at this; exact this
        have on : Own .i64 3 wr B (.slice an L cn) (upto L) := by have := g1.rs.own 10; unfold Rs.own at this; rw [g4, g5] at this; exact this
        obtain ⟨v, hv⟩ : ∃ v, s.ys[k]? = some v := ⟨_, List.getElem?_eq_getElem (by rw [oy.len]; exact hlt)⟩
        obtain ⟨y, rfl, hy, hy2⟩ := HYS.out k v hv
        obtain ⟨gy, rfl⟩ : ∃ gy, ay = some ⟨gy, 0, none⟩ := by
          rcases oy.form with ⟨e, _⟩ | ⟨g, cap, e, _⟩
          · cases e; omega
          · cases e; exact ⟨g, rfl⟩
        obtain ⟨gn, rfl⟩ : ∃ gn, an = some ⟨gn, 0, none⟩ := by
          rcases on.form with ⟨e, _⟩ | ⟨g, cap, e, _⟩
          · cases e; omega
          · rw [upto_len] at e; cases e; exact ⟨g, rfl⟩
        have cy' := oy.at hv
        have cn' := on.at (upto_at hlt)
        have l1 := (HF1.out.tt g2).1
        have HLD := hide (fun W' (t : Tch Non wr W') => leads_any W' B grs gd gg ga gh gs n m cl gr go cr co y x al tag2 s2 A st hd (g1.rs.keep t) ((HD.out.tt g2).tt (TT.keep t)) g1.er g1.eo g1.lo g1.s0 (by rw [g6]; omega) hy hx)
        have HV := hide hv
        have HALL := hide (And.intro g1 (And.intro g2 (And.intro g3 (And.intro g4 (And.intro g5 (And.intro g6 g7))))))
        clear g1 g2 g3 g4 g5 g6 g7 oy on hv
        go_upto_region 6 with fail
        go_cut [33] (fun v wx => ∃ b, v = .bool b ∧ ∃ W', Tch Non wr W' ∧ LPost W' B grs gd n tag2 s2 A y x b wx)
        case first =>
          go_region_with (go_at_call 12; refine (HLD.out wr.drew ⟨rfl, rfl, rfl, Nat.le_refl _, fun _ _ _ => rfl⟩).mono ?_; rintro e w' ⟨b, rfl, hp⟩; replace hp := hide hp)
          all_goals
            go_wp2_with fail
            go_meet
            case rel => exact ⟨b, rfl, wr.drew, ⟨rfl, rfl, rfl, Nat.le_refl _, fun _ _ _ => rfl⟩, hp.out⟩
        case rest =>
          obtain ⟨b, rfl, W', tW, tag3, onw, stk, vs, mk, x1, x2, x3, x4⟩ := hcut
          have hg3 : Good wc B grs gd n m gr go gb cr co cb tag3 A { s2 with srch := s2.srch + 1, onw := onw, stk := stk, vs := vs, marked := mk } := by
            obtain ⟨g1, g2, g3, g4, g5, g6, g7⟩ := HALL.out
            exact ⟨x1, g1.er, g1.eo, g1.eb, g1.ix, x3, fun i v hv => by have := g1.lb i v hv; show v ≤ s2.srch + 1; omega, by show 0 ≤ s2.srch + 1; have := g1.s0; omega⟩
          have htt : TT tag w tag3 wc := (HALL.out.2.1.trans (TT.keep tW)).trans x2
          have HG3 := hide hg3
          have HTT := hide htt
          have HX4 := hide x4
          clear hg3 htt x1 x2 x3 x4 tW HLD
          cases b with
          | true =>
            go_wp2_with fail
            go_ret
            obtain ⟨g1, g2, g3, g4, g5, g6, g7⟩ := HALL.out
            exact ⟨true, _, tag3, rfl, HG3.out, HTT.out, ⟨g3.vy, g3.ys, g3.va, g3.nA⟩, by show s2.srch + 1 ≤ s.srch + 8; omega, fun _ => ⟨k, y, HV.out, HX4.out.1 (by first | rfl | trivial)⟩, fun _ => rfl⟩
          | false =>
            have HS := hide (show RelL w B grs gd n m gr go gb cr co cb tag A s (.slice (some ⟨gn, 0, none⟩) L cn) L x (k + 1) wc from by
              obtain ⟨g1, g2, g3, g4, g5, g6, g7⟩ := HALL.out
              refine ⟨_, tag3, HG3.out, HTT.out, ⟨g3.vy, g3.ys, g3.va, g3.nA⟩, g4, g5, by show s2.srch + 1 = s.srch + ((k + 1 : Nat) : Int); omega, fun i y' hi hy' hR => ?_⟩
              by_cases e : i = k
              · subst e
                rw [HV.out] at hy'
                have : (y : Int) = (y' : Int) := Option.some.inj hy'
                have : y = y' := by omega
                subst this
                have := HX4.out.2 hR
                cases this
              · exact g7 i y' (by omega) hy' hR)
            go_wp2_with fail
            go_roundw
            case rel => exact ⟨k + 1, by omega, rfl, HS.out⟩
            case measure => simp [intOf]; omega
      · have hLl : s.ys.length = L := by have : Own .i32 21 wr B (.slice ay L cy) s.ys := (by have := g1.rs.own 8; unfold Rs.own at this; rw [g3.vy, g3.ys, HEY.out] at this; exact this)
                                         exact this.len
        have HALL := hide (And.intro g1 (And.intro g2 (And.intro g3 (And.intro g6 (And.intro g7 hLl)))))
        clear g1 g2 g3 g4 g5 g6 g7 hLl
        go_wp2_with fail
        go_ret
        obtain ⟨g1, g2, g3, g6, g7, hLl⟩ := HALL.out
        refine ⟨false, s2, tag2, rfl, g1, g2, g3, by omega, (fun h => by cases h), ?_⟩
        rintro ⟨i, y, hy, hR⟩
        exact absurd hR (g7 i y (by have := (List.getElem?_eq_some_iff.1 hy).1; omega) hy)
  · have b8 : decide ((L : Int) ≤ 8) = false := by simp; omega
    have HRE := hide (reaching_any w1 B grs gd gg ga gh gs n m cl gr gb cr cb x al tag1 s1 A st hd HG1.out.rs (HD.out.tt q2.out) HG1.out.er HG1.out.eb HG1.out.ix HG1.out.lb HG1.out.s0 hs2 hx ay L cy (HSM.out.1.vy.trans HEY.out) an cn HSM.out.2.1 HSM.out.2.2.1 hL (by rw [HSM.out.1.ys]; exact HYS'.out))
    go_wp2_with (first | (go_at_call 13; refine HRE.out.mono ?_; rintro e w2 ⟨v0, rfl, hp⟩; replace hp := hide hp) | fail)
    obtain ⟨s2, tag2, x1, x2, x3, x4, x5, x6, x7, x8⟩ := hp.out
    have hg2 : Good w2 B grs gd n m gr go gb cr co cb tag2 A s2 := ⟨x1, x3.vr.trans HG1.out.er, x3.vo.trans HG1.out.eo, x3.vb.trans HG1.out.eb, .inr x6, fun i v hv => by rw [x5] at hv; have := HG1.out.lo i v hv; omega, fun i v hv => by have := x7 i v hv; omega, by have := HG1.out.s0; omega⟩
    have HG2 := hide hg2
    have hsame : Same s s2 := ⟨x3.vy.trans HSM.out.1.vy, x3.ys.trans HSM.out.1.ys, x3.va.trans HSM.out.1.va, x3.nA.trans HSM.out.1.nA⟩
    have HSA := hide hsame
    have HVN := hide (And.intro (x3.vn.trans HSM.out.2.1) (x3.near.trans HSM.out.2.2.1))
    have HTT := hide (q2.out.trans x2)
    have HMK := hide (show ∀ q : Nat, s2.beh[q]? = some s2.srch ↔ Rn (bwd A) x q by rw [x4]; exact x8)
    have hsr : s2.srch ≤ s.srch + 8 := by rw [x4, HSM.out.2.2.2]; omega
    have l1 := (HF1.out.tt HTT.out).1
    have hlb : s2.beh.length = 2 * n := by have := hg2.rs.own 4; unfold Rs.own at this; rw [hg2.eb] at this; exact this.len
    have HLB := hide hlb
    clear hg2 hsame x1 x2 x3 x4 x5 x6 x7 x8 HRE hp HG1 HSM q2 l2 hlb
    go_loopw [42] (fun t wr => ∃ k : Nat, k ≤ L ∧ t = .int .i64 k ∧ Tch Non w2 wr ∧ ∀ i y : Nat, i < k → s.ys[i]? = some (y : Int) → ¬ R A y x) (fun t _ => L - (intOf t).toNat)
    case atStart => exact ⟨0, Nat.zero_le _, rfl, Tch.refl _ _, fun i y hi => by omega⟩
    case round =>
      obtain ⟨k, hk, rfl, g1, g7⟩ := hrel
      have hgd := HG2.out.keep g1
      by_cases hlt : k < L
      · have oy : Own .i32 21 wr B (.slice ay L cy) s.ys := by have := hgd.rs.own 8; unfold Rs.own at this; rw [HSA.out.vy, HSA.out.ys, HEY.out] at this; exact this
        have on : Own .i64 3 wr B (.slice an L cn) (upto L) := by have := hgd.rs.own 10; unfold Rs.own at this; rw [HVN.out.1, HVN.out.2] at this; exact this
        have ob : Own .i32 21 wr B (.slice (some ⟨gb, 0, none⟩) (2 * n) cb) s2.beh := by have := hgd.rs.own 4; unfold Rs.own at this; rw [hgd.eb] at this; exact this
        obtain ⟨v, hv⟩ : ∃ v, s.ys[k]? = some v := ⟨_, List.getElem?_eq_getElem (by rw [oy.len]; exact hlt)⟩
        obtain ⟨y, rfl, hy, hy2⟩ := HYS.out k v hv
        obtain ⟨gy, rfl⟩ : ∃ gy, ay = some ⟨gy, 0, none⟩ := by
          rcases oy.form with ⟨e, _⟩ | ⟨g, cap, e, _⟩
          · cases e; omega
          · cases e; exact ⟨g, rfl⟩
        obtain ⟨gn, rfl⟩ : ∃ gn, an = some ⟨gn, 0, none⟩ := by
          rcases on.form with ⟨e, _⟩ | ⟨g, cap, e, _⟩
          · cases e; omega
          · rw [upto_len] at e; cases e; exact ⟨g, rfl⟩
        have cy' := oy.at hv
        have cn' := on.at (upto_at hlt)
        have l1 := g1.cell l1 (fun h => h)
        obtain ⟨u, hu, cu⟩ := ob.cell (i := y) (by rw [HLB.out]; exact hy)
        have k3 : wr.cell? ⟨grs, 3, none⟩ = some (.slice (some ⟨gb, 0, none⟩) (2 * n) cb) := (hgd.rs.blk.cell 3).trans (by rw [← hgd.eb]; rfl)
        have k4 : wr.cell? ⟨grs, 4, none⟩ = some (.int .i32 s2.srch) := hgd.rs.blk.cell 4
        have hiff := (HMK.out y).trans (back_iff A x y hx2 hy2)
        rw [hu] at hiff
        have HV := hide hv
        have HG7 := hide g7
        have HT1 := hide g1
        by_cases hq : u = s2.srch
        · have hb : (u == s2.srch) = true := by simp [hq]
          have HRR := hide (hiff.1 (by rw [hq]))
          clear hgd oy on ob hv g7 g1 hu hiff hq
          go_upto_region 14 with fail
          go_quiet (fail)
          go_wp2_with fail
          go_ret
          exact ⟨true, s2, tag2, rfl, (HG2.out.keep HT1.out).keep ⟨rfl, rfl, rfl, Nat.le_refl _, fun _ _ _ => rfl⟩, (HTT.out.trans (TT.keep HT1.out)).trans (TT.keep ⟨rfl, rfl, rfl, Nat.le_refl _, fun _ _ _ => rfl⟩), HSA.out, hsr, fun _ => ⟨k, y, HV.out, HRR.out⟩, fun _ => rfl⟩
        · have hb : (u == s2.srch) = false := by simp [hq]
          have HRR := hide (show ¬ R A y x from fun hR => hq (by have := hiff.2 hR; exact Option.some.inj this))
          clear hgd oy on ob hv g7 g1 hu hiff hq
          go_upto_region 14 with fail
          go_quiet (fail)
          go_wp2_with fail
          go_roundw
          case rel =>
            refine ⟨k + 1, by omega, rfl, HT1.out.also ⟨rfl, rfl, rfl, Nat.le_refl _, fun _ _ _ => rfl⟩, fun i y' hi hy' hR => ?_⟩
            by_cases e : i = k
            · subst e
              rw [HV.out] at hy'
              have : (y : Int) = (y' : Int) := Option.some.inj hy'
              have : y = y' := by omega
              subst this
              exact HRR.out hR
            · exact HG7.out i y' (by omega) hy' hR
          case measure => simp [intOf]; omega
      · have hLl : s.ys.length = L := by have : Own .i32 21 wr B (.slice ay L cy) s.ys := (by have := hgd.rs.own 8; unfold Rs.own at this; rw [HSA.out.vy, HSA.out.ys, HEY.out] at this; exact this)
                                         exact this.len
        have HALL := hide (And.intro hgd (And.intro g1 (And.intro g7 hLl)))
        clear hgd g1 g7 hLl
        go_wp2_with fail
        go_ret
        obtain ⟨hgd, g1, g7, hLl⟩ := HALL.out
        refine ⟨false, s2, tag2, rfl, hgd, HTT.out.trans (TT.keep g1), HSA.out, hsr, (fun h => by cases h), ?_⟩
        rintro ⟨i, y, hy, hR⟩
        exact absurd hR (g7 i y (by have := (List.getElem?_eq_some_iff.1 hy).1; omega) hy)
end Go.Proofs.YbulkaxcDoor.Any1
