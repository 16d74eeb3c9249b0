/-
  roundSearch.crossings with the test of 'any', by contract.
-/
import Derived.Test.YbulkaxcDoorCross0
import Derived.Deep.RegionHeld3
namespace Go.Proofs.YbulkaxcDoor.Cross
open Go Go.RowKit Go.Proofs.YbulkaxcDoor.Mem Go.Proofs.YbulkaxcDoor.Pl Go.Proofs.YbulkaxcDoor.RS Go.Proofs.YbulkaxcDoor.Dg Go.Proofs.YbulkaxcDoor.Sr Go.Proofs.YbulkaxcDoor.Any1
set_option linter.unusedVariables false

theorem owns_cut {w : World} {B : Nat} {v : Value} {n : Nat} (h : ∃ xs, w.ownsRow B 64 6 v n xs) : (v = .slice none 0 0 ∧ n = 0) ∨ ∃ g cap, v = .slice (some ⟨g, 0, none⟩) n cap ∧ n ≤ cap ∧ cap ≤ maxLen ∧ ∃ xs, w.ownsRow B 64 6 (.slice (some ⟨g, 0, none⟩) 0 cap) 0 xs := by
  obtain ⟨xs, h⟩ := h
  rcases h.2 with ⟨hv, hn⟩ | ⟨g, cap, cur, hv, hb, hg, h1, h2, h3, h4⟩
  · exact .inl ⟨hv, hn⟩
  · exact .inr ⟨g, cap, hv, h1, h2, [], by simp, .inr ⟨g, cap, cur, rfl, hb, hg, Nat.zero_le _, h2, h3, by simp⟩⟩

theorem no_both {b : Bool} {p : Prop} (h1 : b = true) (h2 : b = false) : p := by rw [h1] at h2; cases h2
theorem src_keep {k : IntKind} {w w' : World} {v : Value} {l : List Int} (h : Src k w v l) (t : Tch Non w w') : Src k w' v l := by
  rcases h with h | ⟨b, off, cap, rfl, h⟩
  · exact .inl h
  · exact .inr ⟨b, off, cap, rfl, fun i x hx => t.cell (h i x hx) (fun h => h)⟩

/-- The state at a point. -/
structure At (w0 : World) (B grs gd gg ga gh gs n m gr go gb cr co cb bb : Nat) (al : Option Addr) (cl : Nat) (A : List (Nat × Nat)) (st hd : List Int) (o : Option (Nat × Nat)) (c : Nat) (tag : Nat → Nat) (s : Rs) (w : World) : Prop where
  good : Any1.Good w B grs gd n m gr go gb cr co cb tag A s
  env : Env w tag B grs gd gg ga gh gs n m al cl A st hd bb o c
  frame : Tch (fun x => B ≤ x) w0 w
theorem At.keep {w0 : World} {B grs gd gg ga gh gs n m gr go gb cr co cb bb : Nat} {al : Option Addr} {cl : Nat} {A : List (Nat × Nat)} {st hd : List Int} {o : Option (Nat × Nat)} {c : Nat} {tag : Nat → Nat} {s : Rs} {w w' : World} (h : At w0 B grs gd gg ga gh gs n m gr go gb cr co cb bb al cl A st hd o c tag s w) (t : Tch Non w w') : At w0 B grs gd gg ga gh gs n m gr go gb cr co cb bb al cl A st hd o c tag s w' :=
  ⟨h.good.keep t, h.env.tt (TT.keep t) h.good.rs.hB, h.frame.also t⟩
/-- ys and arcs have turned. -/
theorem At.to {w0 : World} {B grs gd gg ga gh gs n m gr go gb cr co cb bb : Nat} {al : Option Addr} {cl : Nat} {A : List (Nat × Nat)} {st hd : List Int} {o : Option (Nat × Nat)} {c : Nat} {tag tag' : Nat → Nat} {s : Rs} {w w' : World} (h : At w0 B grs gd gg ga gh gs n m gr go gb cr co cb bb al cl A st hd o c tag s w) {ys : List Int} {vy va : Value} {k : Nat} (hr : RS w' B grs gd (2 * n) tag' { s with ys := ys, vy := vy, va := va, nA := k }) (t : TT tag w tag' w') :
    At w0 B grs gd gg ga gh gs n m gr go gb cr co cb bb al cl A st hd o c tag' { s with ys := ys, vy := vy, va := va, nA := k } w' :=
  ⟨⟨hr, h.good.er, h.good.eo, h.good.eb, h.good.ix, h.good.lo, h.good.lb, h.good.s0⟩, h.env.tt t h.good.rs.hB, h.env.frame h.frame t⟩

def Res (A : List (Nat × Nat)) (o : Option (Nat × Nat)) (n : Nat) (b : Bool) (c : Nat) : Prop :=
  (b = true ∧ ∃ u, u < n ∧ c = u + 1 ∧ (canc o u = true ∨ hit A u) ∧ ∀ u', u' < u → canc o u' = false ∧ ¬ hit A u') ∨ (b = false ∧ c = n ∧ ∀ u', u' < n → canc o u' = false ∧ ¬ hit A u')
def CRet (w0 : World) (B grs gd gg ga gh gs n m gr go gb cr co cb bb : Nat) (al : Option Addr) (cl : Nat) (A : List (Nat × Nat)) (st hd : List Int) (o : Option (Nat × Nat)) (e : Ending) (w' : World) : Prop :=
  ∃ b c tag s, e = .returned (.bool b) ∧ At w0 B grs gd gg ga gh gs n m gr go gb cr co cb bb al cl A st hd o c tag s w' ∧ Res A o n b c
theorem CRet.mk {w0 : World} {B grs gd gg ga gh gs n m gr go gb cr co cb bb : Nat} {al : Option Addr} {cl : Nat} {A : List (Nat × Nat)} {st hd : List Int} {o : Option (Nat × Nat)} {e : Ending} {w' : World} (b : Bool) {c : Nat} {tag : Nat → Nat} {s : Rs} (he : e = .returned (.bool b)) (h : At w0 B grs gd gg ga gh gs n m gr go gb cr co cb bb al cl A st hd o c tag s w') (hr : Res A o n b c) : CRet w0 B grs gd gg ga gh gs n m gr go gb cr co cb bb al cl A st hd o e w' := ⟨b, c, tag, s, he, h, hr⟩

set_option maxRecDepth 10000 in
set_option maxHeartbeats 4000000 in
theorem crossings_any (w0 w : World) (B grs gd gg ga gh gs n m gr go gb cr co cb bb : Nat) (al : Option Addr) (cl : Nat) (A : List (Nat × Nat)) (st hd : List Int) (o : Option (Nat × Nat)) (tag : Nat → Nat) (s : Rs) (h : At w0 B grs gd gg ga gh gs n m gr go gb cr co cb bb al cl A st hd o 0 tag s w) (hs : s.srch ≤ 0) :
    Calls Ybad.prog 9 #[.pointer (some ⟨grs, 0, none⟩), .func (.func 10) #[] #[.pointer (some ⟨bb, 0, none⟩)]] w fun e w' => CRet w0 B grs gd gg ga gh gs n m gr go gb cr co cb bb al cl A st hd o e w' := by
  have k0 : w.cell? ⟨grs, 0, none⟩ = some (.pointer (some ⟨gd, 0, none⟩)) := h.good.rs.blk.cell 0
  have d1 := h.env.dg.c1.1
  have hn := h.env.dg.hn
  have hm := h.env.dg.hm
  have H := hide h
  have HCS := hide h.env.dg.csr
  have HA := hide h.env.dg.hA
  have HLA := hide h.env.dg.lenA
  clear h
  obtain ⟨i0, hi, hz0, hz1, hz2⟩ := info_parts Fwd.info21
  go_enter Ybad.func9, Ybad.ntmps9
  go_wp2_with fail
  go_loopw [21] (fun t wr => ∃ u : Nat, u ≤ n ∧ t = .int .i32 u ∧ ∃ tag s, At w0 B grs gd gg ga gh gs n m gr go gb cr co cb bb al cl A st hd o u tag s wr ∧ s.srch ≤ 8 * (u : Int) ∧ ∀ u', u' < u → canc o u' = false ∧ ¬ hit A u') (fun t _ => n - (intOf t).toNat)
  case atStart => exact ⟨0, Nat.zero_le _, rfl, tag, s, H.out, by simpa using hs, fun u' hu => by omega⟩
  case round =>
    clear H k0 d1 hs
    rename_i w9 
    obtain ⟨u, hu, rfl, tag1, s1, h1, hs1, hno⟩ := hrel
    have HNO := hide hno
    clear hno
    by_cases hlt : u < n
    · have HC := hide (cancel_any h1.env h1.good h1.frame (by omega))
      have d0 := h1.env.dg.c0.1
      clear h1
      cases hcn : canc o u with
      | true =>
        rw [hcn] at HC
        have HCN := hide hcn
        clear hcn
        go_wp2_with (first | (go_at_call 15; refine HC.out.mono ?_; rintro e w2 ⟨rfl, x1, x2, x3⟩; replace x1 := hide x1; replace x2 := hide x2; replace x3 := hide x3) | fail)
        go_ret
        exact CRet.mk true rfl ⟨x2.out, x1.out, x3.out⟩ (.inl ⟨rfl, u, hlt, rfl, .inl HCN.out, HNO.out⟩)
      | false =>
        rw [hcn] at HC
        have HCN := hide hcn
        clear hcn
        go_upto_region 7 with (first | (go_at_call 15; refine HC.out.mono ?_; rintro e w2 ⟨rfl, x1, x2, x3⟩; replace x1 := hide x1; replace x2 := hide x2; replace x3 := hide x3) | fail)
        have d3 := x1.out.dg.c3.1
        have HA2 := hide (show At w0 B grs gd gg ga gh gs n m gr go gb cr co cb bb al cl A st hd o (u + 1) tag1 s1 w2 from ⟨x2.out, x1.out, x3.out⟩)
        clear x1 x2 x3 HC d0
        go_wp2_with fail
        go_loopw [33] (fun t wr => ∃ l : Nat, l ≤ 1 ∧ t = .int .i32 l ∧ ∃ tag s, At w0 B grs gd gg ga gh gs n m gr go gb cr co cb bb al cl A st hd o (u + 1) tag s wr ∧ s.srch ≤ 8 * ((u : Int) + l) ∧ (l = 1 → ¬ hit A u)) (fun t _ => 1 - (intOf t).toNat)
        case atStart => exact ⟨0, Nat.zero_le _, rfl, tag1, s1, HA2.out, by simpa using hs1, fun h => by omega⟩
        case round =>
          clear HA2 d3 hs1
          obtain ⟨l, hl, rfl, tag2, s2, h2, hs2, hnh⟩ := hrel
          by_cases hl0 : l = 0
          · subst hl0
            clear hnh
            obtain ⟨x, hxu⟩ : ∃ x, x = 2 * u := ⟨_, rfl⟩
            have hx : x < 2 * n := by omega
            have HPL := hide (show Calls Ybad.prog 16 #[.pointer (some ⟨gd, 0, none⟩), .int .i32 (u : Int), .int .i32 0] wr fun e w' => e = .returned (.int .i32 (x : Int)) ∧ wr = w' from by
              refine (Small.place_any gd u 0 al 2 cl wr h2.env.dg.c2.1 (by omega) (by omega) (by omega) (by omega) (by omega)).mono fun e w' ⟨e1, e2⟩ => ⟨?_, e2.symm⟩
              rw [e1]; congr 2; omega)
            have H2 := hide h2
            have HXU := hide hxu
            have hs2' : s2.srch ≤ 8 * (u : Int) := by simpa using hs2
            clear h2 hxu hs2
            go_upto_region 11 with (first | (go_at_call 16; refine HPL.out.mono ?_; rintro e w3 ⟨rfl, rfl⟩) | fail)
            clear HPL
            go_cut [8] (fun v wx => v = .int .i32 (x : Int) ∧ ∃ tag vy va, At w0 B grs gd gg ga gh gs n m gr go gb cr co cb bb al cl A st hd o (u + 1) tag { s2 with ys := [], vy := vy, va := va, nA := 0 } wx)
            case first =>
              have oy : Own .i32 21 wr B s2.vy s2.ys := H2.out.good.rs.own 8
              have oa : ∃ xs, wr.ownsRow B 64 6 s2.va s2.nA xs := H2.out.good.rs.own 9
              have k8 : wr.cell? ⟨grs, 8, none⟩ = some s2.vy := H2.out.good.rs.blk.cell 8
              have k9 : wr.cell? ⟨grs, 9, none⟩ = some s2.va := H2.out.good.rs.blk.cell 9
              have z8 := H2.out.good.rs.blk.frozen 8
              have z9 := H2.out.good.rs.blk.frozen 9
              have hcut : ∀ vy' va', (∀ g, vy'.ownBlock = some g → s2.vy.ownBlock = some g) → (∀ g, va'.ownBlock = some g → s2.va.ownBlock = some g) → Own .i32 21 wr B vy' [] → (∃ xs, wr.ownsRow B 64 6 va' 0 xs) →
                  ∃ tag', At w0 B grs gd gg ga gh gs n m gr go gb cr co cb bb al cl A st hd o (u + 1) tag' { s2 with ys := [], vy := vy', va := va', nA := 0 } ((wr.setCell ⟨grs, 8, none⟩ vy').setCell ⟨grs, 9, none⟩ va') := by
                intro vy' va' b1 b2 b3 b4
                obtain ⟨t1, r1, r2⟩ := (RV.of H2.out.good.rs).appY vy' [] (Tch.refl _ _) b3 (fun k hk => .inl (b1 k hk))
                obtain ⟨t2, r3, r4⟩ := r1.appA va' 0 (Tch.refl _ _) b4 (fun k hk => .inl (b2 k hk))
                obtain ⟨r5, r6⟩ := r3.set 8 vy'
                obtain ⟨r7, r8⟩ := r5.set 9 va'
                exact ⟨t2, H2.out.to (RV.rs r7) (((r2.trans r4).trans r6).trans r8)⟩
              have HCUT := hide hcut
              clear hcut
              rcases oy.form with ⟨ev, el⟩ | ⟨gv, cv, ev, hb, hltv, hlc, hcm⟩
              · rw [ev] at k8
                rcases owns_cut oa with ⟨ew, en⟩ | ⟨gw, cw, ew, hw1, hw2, hw3⟩
                · rw [ew] at k9
                  have HF := hide (HCUT.out (.slice none 0 0) (.slice none 0 0) (by simp [Value.ownBlock]) (by simp [Value.ownBlock]) (Own.nil _ _ _ _) ⟨[], World.ownsRow_nil _ _ _ _⟩)
                  clear oy oa ev ew HCUT
                  go_region
                  all_goals
                    go_wp2_with fail
                    go_meet
                    case rel =>
                      obtain ⟨tag', hf⟩ := HF.out
                      exact ⟨rfl, tag', _, _, hf.keep ⟨rfl, rfl, rfl, Nat.le_refl _, fun _ _ _ => rfl⟩⟩
                · rw [ew] at k9
                  have HF := hide (HCUT.out (.slice none 0 0) (.slice (some ⟨gw, 0, none⟩) 0 cw) (by simp [Value.ownBlock]) (fun g hg => by rw [ew]; exact hg) (Own.nil _ _ _ _) hw3)
                  clear oy oa ev ew HCUT hw3
                  generalize s2.nA = NA at *
                  go_region
                  all_goals
                    go_wp2_with fail
                    go_meet
                    case rel =>
                      obtain ⟨tag', hf⟩ := HF.out
                      exact ⟨rfl, tag', _, _, hf.keep ⟨rfl, rfl, rfl, Nat.le_refl _, fun _ _ _ => rfl⟩⟩
              · rw [ev] at k8
                have o8 := oy
                rw [ev] at o8
                replace o8 := o8.cut 0 (Nat.zero_le _)
                rcases owns_cut oa with ⟨ew, en⟩ | ⟨gw, cw, ew, hw1, hw2, hw3⟩
                · rw [ew] at k9
                  have HF := hide (HCUT.out (.slice (some ⟨gv, 0, none⟩) 0 cv) (.slice none 0 0) (fun g hg => by rw [ev]; exact hg) (by simp [Value.ownBlock]) (by simpa using o8) ⟨[], World.ownsRow_nil _ _ _ _⟩)
                  clear oy oa ev ew HCUT o8
                  generalize s2.ys.length = NY at *; 
                  go_region
                  all_goals
                    go_wp2_with fail
                    go_meet
                    case rel =>
                      obtain ⟨tag', hf⟩ := HF.out
                      exact ⟨rfl, tag', _, _, hf.keep ⟨rfl, rfl, rfl, Nat.le_refl _, fun _ _ _ => rfl⟩⟩
                · rw [ew] at k9
                  have HF := hide (HCUT.out (.slice (some ⟨gv, 0, none⟩) 0 cv) (.slice (some ⟨gw, 0, none⟩) 0 cw) (fun g hg => by rw [ev]; exact hg) (fun g hg => by rw [ew]; exact hg) (by simpa using o8) hw3)
                  clear oy oa ev ew HCUT o8 hw3
                  generalize s2.ys.length = NY at *; generalize s2.nA = NA at *
                  go_region
                  all_goals
                    go_wp2_with fail
                    go_meet
                    case rel =>
                      obtain ⟨tag', hf⟩ := HF.out
                      exact ⟨rfl, tag', _, _, hf.keep ⟨rfl, rfl, rfl, Nat.le_refl _, fun _ _ _ => rfl⟩⟩
            case rest =>
              obtain ⟨rfl, tag3, vy3, va3, h3⟩ := hcut
              have hfr := from2 h3.env.dg x hx
              have H3 := hide h3
              have HFR := hide hfr
              have hkb := below_succ (fsOf A) x
              have hbl := below_le (fsOf A) (x + 1)
              have hfl : (fsOf A).length = m := by unfold fsOf; rw [List.length_map]; exact HLA.out
              rw [hfl] at hbl
              generalize hK : below (fsOf A) (x + 1) - below (fsOf A) x = K at *
              generalize hb0 : below (fsOf A) x = b0 at *
              have HKK := hide (And.intro hK hb0)
              have hKm : b0 + K ≤ m := by omega
              clear h3 hfr hkb hbl hfl hK hb0 H2
              go_upto_region 13 with (first | (go_at_call 17; refine HFR.out.mono ?_; rintro e w4 ⟨oh, ch, oa, ca, rfl, hof, q, rfl⟩; replace hof := hide hof) | fail)
              have H4 := hide (H3.out.keep (w' := _) ((Tch.refl Non _).drewN q))
              clear H3 HFR
              go_wp2_with fail
              go_loopw [64] (fun t wr => ∃ j : Nat, j ≤ K ∧ t = .int .i64 j ∧ ∃ tag ys vy va k, At w0 B grs gd gg ga gh gs n m gr go gb cr co cb bb al cl A st hd o (u + 1) tag { s2 with ys := ys, vy := vy, va := va, nA := k } wr ∧ YS hd b0 j ys ∧ k ≤ j) (fun t _ => K - (intOf t).toNat)
              case atStart => exact ⟨0, Nat.zero_le _, rfl, tag3, [], vy3, va3, 0, H4.out, YS.zero _ _, Nat.le_refl _⟩
              case round =>
                clear H4
                obtain ⟨j, hj, rfl, tag4, ys, vy, va, k, h4, hys, hkj⟩ := hrel
                by_cases hjk : j < K
                · obtain ⟨t, hph, hhd⟩ := HCS.out.seg_of (p := x) (k := b0 + j) (by have := HKK.out.2; omega) (by have := HKK.out; omega)
                  have htP := (HA.out x t hph).2
                  have hof1 := (hof.out (by omega)).1
                  have ct : wr.cell? ⟨gh, oh + j, none⟩ = some (.int .i32 t) := by rw [hof1]; exact (h4.env.dg.vh _ _ hhd).1
                  have d1 := h4.env.dg.c1.1
                  have d2 := h4.env.dg.c2.1
                  have d3 := h4.env.dg.c3.1
                  have p1 := hide (isPoint_no wr gd n cl t al d1 d2 hn htP)
                  have H4 := hide h4
                  have HYS := hide hys
                  have HHD := hide hhd
                  by_cases hev : t % 2 = 0
                  · have p2 := hide (layer_is wr gd n cl t 0 al d2 hn htP hev)
                    have HS := hide (hys.skip hhd hev)
                    clear h4 hys hhd hof1 hph d1 d2
                    go_upto_region 16 with fail
                    go_quiet (first | (go_at_call 18; exact Calls.quiet_of (p1.out _)) | (go_at_call 19; exact Calls.quiet_of_same (p2.out _)))
                    go_wp2_with fail
                    go_roundw
                    case rel => exact ⟨j + 1, by omega, rfl, tag4, ys, vy, va, k, H4.out.keep ⟨rfl, rfl, rfl, Nat.le_refl _, fun _ _ _ => rfl⟩, HS.out, by omega⟩
                    case measure => simp [intOf]; omega
                  · have hod : t % 2 = 1 := by omega
                    have p2 := hide (layer_is wr gd n cl t 1 al d2 hn htP hod)
                    have HS := hide (hys.push hhd hod)
                    have hof2 := (hof.out (by omega)).2
                    have HO2 := hide hof2
                    clear h4 hys hhd hof1 hof2 hph d1 d2 d3
                    go_upto_region 16 with fail
                    have d3 := H4.out.env.dg.c3.1
                    go_quiet (first | (go_at_call 18; exact Calls.quiet_of (p1.out _)) | (go_at_call 19; exact Calls.quiet_of_same (p2.out _)))
                    go_upto_region 17 with fail
                    have hyl : ys.length ≤ 2000 := by have := HYS.out.len; omega
                    have hk2 : k ≤ 2000 := by omega
                    have oy : Own .i32 21 wr B vy ys := H4.out.good.rs.own 8
                    obtain ⟨ay, L, cy, ey⟩ := oy.slice
                    subst ey
                    obtain ⟨aw, nw, cw, ew⟩ : ∃ a n c, va = .slice a n c := by
                      rcases owns_cut (show ∃ xs, wr.ownsRow B 64 6 va k xs from H4.out.good.rs.own 9) with ⟨e, _⟩ | ⟨g, cap, e, _⟩
                      · exact ⟨_, _, _, e⟩
                      · exact ⟨_, _, _, e⟩
                    subst ew
                    generalize hW0 : World.drewN wr _ = W0
                    have tW0 : Tch Non wr W0 := by rw [← hW0]; exact (Tch.refl _ _).drewN _
                    have T0 := hide (TT.keep (tag := tag4) tW0)
                    have R0 := hide (RV.of (H4.out.good.rs.keep tW0))
                    have HE4 := hide H4.out.env
                    have HARC := hide (show ∃ f g : Int, Fix wr tag4 ⟨ga, oa + j * 6, none⟩ (.int .i32 f) ∧ Fix wr tag4 ⟨ga, oa + j * 6 + 1, none⟩ (.int .i32 g) ∧ Fix wr tag4 ⟨ga, oa + j * 6 + 2, none⟩ (.int .u8 0) ∧ Fix wr tag4 ⟨ga, oa + j * 6 + 3, none⟩ (.int .i32 0) ∧ Fix wr tag4 ⟨ga, oa + j * 6 + 4, none⟩ (.int .i32 0) ∧ Fix wr tag4 ⟨ga, oa + j * 6 + 5, none⟩ (.int .i64 0) from by
                      have := H4.out.env.arcs (b0 + j) (by omega)
                      have e : (b0 + j) * 6 = oa + j * 6 := by rw [HO2.out]; omega
                      unfold ArcAt at this
                      rw [e] at this
                      exact this)
                    obtain ⟨f, g, harc⟩ := HARC.out
                    replace HARC := hide harc
                    have HS' := hide (show YS hd b0 (j + 1) (ys ++ [(t : Int) - 1]) from by have := HS.out; rw [show ((t - 1 : Nat) : Int) = (t : Int) - 1 by omega] at this; exact this)
                    obtain ⟨cs, hcs⟩ : ∃ cs, cs = ({ s2 with ys := ys, vy := .slice ay L cy, va := .slice aw nw cw, nA := k } : Rs).cells gd := ⟨_, rfl⟩
                    have HC8 := hide (show cs[8]? = some (.slice ay L cy) by rw [hcs]; rfl)
                    have HC9 := hide (show cs[9]? = some (.slice aw nw cw) by rw [hcs]; rfl)
                    rw [← hcs] at R0
                    have HCS' := hide hcs
                    have o1 : (1 : Int) ≤ (t : Int) := by omega
                    have o2 : (t : Int) ≤ 100 := by omega
                    have o3 : (j : Int) < (K : Int) := by omega
                    have o4 : IntKind.i32.wrap ((t : Int) - 1) = (t : Int) - 1 := IntWalk.i32_in _ (by omega)
                    clear hW0 tW0 oy harc hcs ct d3 p1 p2 HS
                    have HCW := hide (show ∀ W tag' s', RV W B grs (2 * n) tag' cs s' → TT tag4 wr tag' W → (fun w' => w'.cell? ⟨grs, 8, none⟩ = some (.slice ay L cy) ∧ w'.cell? ⟨grs, 9, none⟩ = some (.slice aw nw cw) ∧ w'.cell? ⟨gd, 3, none⟩ = some (.int .i32 1) ∧ w'.cell? ⟨ga, oa + j * 6, none⟩ = some (.int .i32 f) ∧ w'.cell? ⟨ga, oa + j * 6 + 1, none⟩ = some (.int .i32 g) ∧ w'.cell? ⟨ga, oa + j * 6 + 2, none⟩ = some (.int .u8 0) ∧ w'.cell? ⟨ga, oa + j * 6 + 3, none⟩ = some (.int .i32 0) ∧ w'.cell? ⟨ga, oa + j * 6 + 4, none⟩ = some (.int .i32 0) ∧ w'.cell? ⟨ga, oa + j * 6 + 5, none⟩ = some (.int .i64 0)) W from by
                      intro W tag' s' r t
                      obtain ⟨a0, a1, a2, a3, a4, a5⟩ := HARC.out
                      exact ⟨(r.blk.cell 8).trans HC8.out, (r.blk.cell 9).trans HC9.out, (HE4.out.dg.c3.tt t).1, (a0.tt t).1, (a1.tt t).1, (a2.tt t).1, (a3.tt t).1, (a4.tt t).1, (a5.tt t).1⟩)
                    have hC0 := HCW.out W0.drew tag4 _ (R0.out.keep ⟨rfl, rfl, rfl, Nat.le_refl _, fun _ _ _ => rfl⟩) (T0.out.trans (TT.keep ⟨rfl, rfl, rfl, Nat.le_refl _, fun _ _ _ => rfl⟩))
                    refine Ord.AnyC.begin (C := (fun w' => w'.cell? ⟨grs, 8, none⟩ = some (.slice ay L cy) ∧ w'.cell? ⟨grs, 9, none⟩ = some (.slice aw nw cw) ∧ w'.cell? ⟨gd, 3, none⟩ = some (.int .i32 1) ∧ w'.cell? ⟨ga, oa + j * 6, none⟩ = some (.int .i32 f) ∧ w'.cell? ⟨ga, oa + j * 6 + 1, none⟩ = some (.int .i32 g) ∧ w'.cell? ⟨ga, oa + j * 6 + 2, none⟩ = some (.int .u8 0) ∧ w'.cell? ⟨ga, oa + j * 6 + 3, none⟩ = some (.int .i32 0) ∧ w'.cell? ⟨ga, oa + j * 6 + 4, none⟩ = some (.int .i32 0) ∧ w'.cell? ⟨ga, oa + j * 6 + 5, none⟩ = some (.int .i64 0))) (z := 26) (by kernel_rfl) ?_
                    have rvd := hide (R0.out.keep (w' := W0.drew) ⟨rfl, rfl, rfl, Nat.le_refl _, fun _ _ _ => rfl⟩)
                    have ttd := hide (T0.out.trans (TT.keep (w' := W0.drew) ⟨rfl, rfl, rfl, Nat.le_refl _, fun _ _ _ => rfl⟩))
                    generalize W0.drew = Wd at *
                    refine Ord.AnyC.takeP (i := 0) (oi := { dst := some 83, op := Op.move (Operand.tmp 0), type := 23, pos := "round.go:200", after := #[], guard := none }) (v := .pointer (some ⟨grs, 0, none⟩)) rfl (by kernel_rfl) (by kernel_rfl) (by kernel_rfl) (by decide) (fun _ _ _ h => h) (Or.inl ⟨by rfl, fun w0 _ => by go_simp⟩) (fun _ => hC0) ?_
                    try simp only [Act.put, List.setIfInBounds_toArray, List.set_cons_zero, List.set_cons_succ]
                    refine Ord.AnyC.takeP (i := 1) (oi := { dst := some 84, op := Op.move (Operand.tmp 0), type := 23, pos := "round.go:200", after := #[{ on := 26, ground := Ground.gcOnly Departure.lateStores }], guard := none }) (v := .pointer (some ⟨grs, 0, none⟩)) rfl (by kernel_rfl) (by kernel_rfl) (by kernel_rfl) (by decide) (fun _ _ _ h => h) (Or.inl ⟨by rfl, fun w0 _ => by go_simp⟩) (fun _ => hC0) ?_
                    try simp only [Act.put, List.setIfInBounds_toArray, List.set_cons_zero, List.set_cons_succ]
                    refine Ord.AnyC.takeP (i := 2) (oi := { dst := some 85, op := Op.move (Operand.tmp 0), type := 23, pos := "round.go:200", after := #[], guard := none }) (v := .pointer (some ⟨grs, 0, none⟩)) rfl (by kernel_rfl) (by kernel_rfl) (by kernel_rfl) (by decide) (fun _ _ _ h => h) (Or.inl ⟨by rfl, fun w0 _ => by go_simp⟩) (fun _ => hC0) ?_
                    try simp only [Act.put, List.setIfInBounds_toArray, List.set_cons_zero, List.set_cons_succ]
                    refine Ord.AnyC.takeP (i := 3) (oi := { dst := some 86, op := Op.nilCheck (Operand.tmp 85), type := 0, pos := "round.go:200", after := #[{ on := 2, ground := Ground.data }], guard := none }) (v := .pointer (some ⟨grs, 0, none⟩)) rfl (by kernel_rfl) (by kernel_rfl) (by kernel_rfl) (by decide) (fun _ _ _ h => h) (Or.inl ⟨by rfl, fun w0 _ => by go_simp⟩) (fun _ => hC0) ?_
                    try simp only [Act.put, List.setIfInBounds_toArray, List.set_cons_zero, List.set_cons_succ]
                    refine Ord.AnyC.takeP (i := 4) (oi := { dst := some 87, op := Op.fieldAddr 57 (Operand.tmp 86) 8, type := 0, pos := "round.go:200", after := #[{ on := 3, ground := Ground.data }], guard := none }) (v := .pointer (some ⟨grs, 8, none⟩)) rfl (by kernel_rfl) (by kernel_rfl) (by kernel_rfl) (by decide) (fun _ _ _ h => h) (Or.inl ⟨by rfl, fun w0 _ => by go_simp⟩) (fun _ => hC0) ?_
                    try simp only [Act.put, List.setIfInBounds_toArray, List.set_cons_zero, List.set_cons_succ]
                    refine Ord.AnyC.take (i := 5) (oi := { dst := some 88, op := Op.load 24 (Operand.tmp 87), type := 24, pos := "round.go:200", after := #[{ on := 4, ground := Ground.data }], guard := none }) (v := .slice ay L cy) rfl (by kernel_rfl) (by kernel_rfl) (by kernel_rfl) (by kernel_rfl) (by kernel_rfl) (fun _ _ _ h => h) (Or.inl ⟨by rfl, fun w0 hSw => by (try dsimp only at hSw); go_simp⟩) hC0 ?_
                    try simp only [Act.put, List.setIfInBounds_toArray, List.set_cons_zero, List.set_cons_succ]
                    refine Ord.AnyC.takeP (i := 6) (oi := { dst := some 89, op := Op.move (Operand.tmp 12), type := 21, pos := "round.go:200", after := #[], guard := none }) (v := .int .i32 (t : Int)) rfl (by kernel_rfl) (by kernel_rfl) (by kernel_rfl) (by decide) (fun _ _ _ h => h) (Or.inl ⟨by rfl, fun w0 _ => by go_simp⟩) (fun _ => hC0) ?_
                    try simp only [Act.put, List.setIfInBounds_toArray, List.set_cons_zero, List.set_cons_succ]
                    refine Ord.AnyC.takeP (i := 7) (oi := { dst := some 90, op := Op.move (Operand.tmp 5), type := 55, pos := "round.go:200", after := #[], guard := none }) (v := .pointer (some ⟨gd, 0, none⟩)) rfl (by kernel_rfl) (by kernel_rfl) (by kernel_rfl) (by decide) (fun _ _ _ h => h) (Or.inl ⟨by rfl, fun w0 _ => by go_simp⟩) (fun _ => hC0) ?_
                    try simp only [Act.put, List.setIfInBounds_toArray, List.set_cons_zero, List.set_cons_succ]
                    refine Ord.AnyC.takeP (i := 8) (oi := { dst := some 91, op := Op.nilCheck (Operand.tmp 90), type := 0, pos := "round.go:200", after := #[{ on := 7, ground := Ground.data }], guard := none }) (v := .pointer (some ⟨gd, 0, none⟩)) rfl (by kernel_rfl) (by kernel_rfl) (by kernel_rfl) (by decide) (fun _ _ _ h => h) (Or.inl ⟨by rfl, fun w0 _ => by go_simp⟩) (fun _ => hC0) ?_
                    try simp only [Act.put, List.setIfInBounds_toArray, List.set_cons_zero, List.set_cons_succ]
                    refine Ord.AnyC.takeP (i := 9) (oi := { dst := some 92, op := Op.fieldAddr 54 (Operand.tmp 91) 3, type := 0, pos := "round.go:200", after := #[{ on := 8, ground := Ground.data }], guard := none }) (v := .pointer (some ⟨gd, 3, none⟩)) rfl (by kernel_rfl) (by kernel_rfl) (by kernel_rfl) (by decide) (fun _ _ _ h => h) (Or.inl ⟨by rfl, fun w0 _ => by go_simp⟩) (fun _ => hC0) ?_
                    try simp only [Act.put, List.setIfInBounds_toArray, List.set_cons_zero, List.set_cons_succ]
                    refine Ord.AnyC.take (i := 10) (oi := { dst := some 93, op := Op.load 21 (Operand.tmp 92), type := 21, pos := "round.go:200", after := #[{ on := 9, ground := Ground.data }], guard := none }) (v := .int .i32 1) rfl (by kernel_rfl) (by kernel_rfl) (by kernel_rfl) (by kernel_rfl) (by kernel_rfl) (fun _ _ _ h => h) (Or.inl ⟨by rfl, fun w0 hSw => by (try dsimp only at hSw); go_simp⟩) hC0 ?_
                    try simp only [Act.put, List.setIfInBounds_toArray, List.set_cons_zero, List.set_cons_succ]
                    refine Ord.AnyC.takeP (i := 11) (oi := { dst := some 94, op := Op.binOp BinOp.sub 21 (Operand.tmp 89) (Operand.tmp 93) 21, type := 21, pos := "round.go:200", after := #[{ on := 6, ground := Ground.data }, { on := 10, ground := Ground.data }], guard := none }) (v := .int .i32 ((t : Int) - 1)) rfl (by kernel_rfl) (by kernel_rfl) (by kernel_rfl) (by decide) (fun _ _ _ h => h) (Or.inl ⟨by rfl, fun w0 _ => by go_simp⟩) (fun _ => hC0) ?_
                    try simp only [Act.put, List.setIfInBounds_toArray, List.set_cons_zero, List.set_cons_succ]
                    refine Ord.AnyC.takeP (i := 14) (oi := { dst := some 97, op := Op.move (Operand.tmp 0), type := 23, pos := "round.go:200", after := #[], guard := none }) (v := .pointer (some ⟨grs, 0, none⟩)) rfl (by kernel_rfl) (by kernel_rfl) (by kernel_rfl) (by decide) (fun _ _ _ h => h) (Or.inl ⟨by rfl, fun w0 _ => by go_simp⟩) (fun _ => hC0) ?_
                    try simp only [Act.put, List.setIfInBounds_toArray, List.set_cons_zero, List.set_cons_succ]
                    refine Ord.AnyC.takeP (i := 15) (oi := { dst := some 98, op := Op.nilCheck (Operand.tmp 97), type := 0, pos := "round.go:200", after := #[{ on := 14, ground := Ground.data }], guard := none }) (v := .pointer (some ⟨grs, 0, none⟩)) rfl (by kernel_rfl) (by kernel_rfl) (by kernel_rfl) (by decide) (fun _ _ _ h => h) (Or.inl ⟨by rfl, fun w0 _ => by go_simp⟩) (fun _ => hC0) ?_
                    try simp only [Act.put, List.setIfInBounds_toArray, List.set_cons_zero, List.set_cons_succ]
                    refine Ord.AnyC.takeP (i := 16) (oi := { dst := some 99, op := Op.fieldAddr 57 (Operand.tmp 98) 9, type := 0, pos := "round.go:200", after := #[{ on := 15, ground := Ground.data }], guard := none }) (v := .pointer (some ⟨grs, 9, none⟩)) rfl (by kernel_rfl) (by kernel_rfl) (by kernel_rfl) (by decide) (fun _ _ _ h => h) (Or.inl ⟨by rfl, fun w0 _ => by go_simp⟩) (fun _ => hC0) ?_
                    try simp only [Act.put, List.setIfInBounds_toArray, List.set_cons_zero, List.set_cons_succ]
                    refine Ord.AnyC.take (i := 17) (oi := { dst := some 100, op := Op.load 43 (Operand.tmp 99), type := 43, pos := "round.go:200", after := #[{ on := 16, ground := Ground.data }], guard := none }) (v := .slice aw nw cw) rfl (by kernel_rfl) (by kernel_rfl) (by kernel_rfl) (by kernel_rfl) (by kernel_rfl) (fun _ _ _ h => h) (Or.inl ⟨by rfl, fun w0 hSw => by (try dsimp only at hSw); go_simp⟩) hC0 ?_
                    try simp only [Act.put, List.setIfInBounds_toArray, List.set_cons_zero, List.set_cons_succ]
                    refine Ord.AnyC.takeP (i := 18) (oi := { dst := some 101, op := Op.move (Operand.tmp 9), type := 43, pos := "round.go:200", after := #[], guard := none }) (v := .slice (some ⟨ga, oa, none⟩) K ca) rfl (by kernel_rfl) (by kernel_rfl) (by kernel_rfl) (by decide) (fun _ _ _ h => h) (Or.inl ⟨by rfl, fun w0 _ => by go_simp⟩) (fun _ => hC0) ?_
                    try simp only [Act.put, List.setIfInBounds_toArray, List.set_cons_zero, List.set_cons_succ]
                    refine Ord.AnyC.takeP (i := 19) (oi := { dst := some 102, op := Op.move (Operand.tmp 11), type := 3, pos := "round.go:200", after := #[], guard := none }) (v := .int .i64 (j : Int)) rfl (by kernel_rfl) (by kernel_rfl) (by kernel_rfl) (by decide) (fun _ _ _ h => h) (Or.inl ⟨by rfl, fun w0 _ => by go_simp⟩) (fun _ => hC0) ?_
                    try simp only [Act.put, List.setIfInBounds_toArray, List.set_cons_zero, List.set_cons_succ]
                    refine Ord.AnyC.takeP (i := 20) (oi := { dst := some 103, op := Op.indexAddr 43 (Operand.tmp 101) (Operand.tmp 102), type := 0, pos := "round.go:200", after := #[{ on := 18, ground := Ground.data }, { on := 19, ground := Ground.data }], guard := none }) (v := .pointer (some ⟨ga, oa + j * 6, none⟩)) rfl (by kernel_rfl) (by kernel_rfl) (by kernel_rfl) (by decide) (fun _ _ _ h => h) (Or.inl ⟨by rfl, fun w0 _ => by go_simp⟩) (fun _ => hC0) ?_
                    try simp only [Act.put, List.setIfInBounds_toArray, List.set_cons_zero, List.set_cons_succ]
                    refine Ord.AnyC.take (i := 21) (oi := { dst := some 104, op := Op.load 64 (Operand.tmp 103), type := 64, pos := "round.go:200", after := #[{ on := 20, ground := Ground.data }], guard := none }) (v := .agg #[.int .i32 f, .int .i32 g, .int .u8 0, .int .i32 0, .int .i32 0, .int .i64 0]) rfl (by kernel_rfl) (by kernel_rfl) (by kernel_rfl) (by kernel_rfl) (by kernel_rfl) (fun _ _ _ h => h) (Or.inl ⟨by rfl, fun w0 hSw => by (try dsimp only at hSw); go_simp⟩) hC0 ?_
                    try simp only [Act.put, List.setIfInBounds_toArray, List.set_cons_zero, List.set_cons_succ]
                    refine Ord.AnyC.two (i := 12) (j := 22) (o := { dst := some 95, op := Op.buildSlice 24 1 #[(0, Operand.tmp 94)], type := 24, pos := "round.go:200", after := #[{ on := 11, ground := Ground.data }], guard := none }) (p := { dst := some 105, op := Op.buildSlice 43 1 #[(0, Operand.tmp 104)], type := 43, pos := "round.go:200", after := #[{ on := 21, ground := Ground.data }], guard := none }) (by kernel_rfl) rfl rfl (fun K hK => ?_) (fun K hK => ?_)
                    · skip
                      replace hK := hide hK
                      go_simp
                      have rv1 := hide (rvd.out.keep ((Tch.refl Non Wd).alloc (.cells #[.int .i32 ((t : Int) - 1)] 21)))
                      have tt1 := hide (ttd.out.trans (TT.keep ((Tch.refl Non Wd).alloc (.cells #[.int .i32 ((t : Int) - 1)] 21))))
                      have sk1 := hide (Src.one .i32 21 Wd ((t : Int) - 1) 1)
                      have hCn := HCW.out _ _ _ rv1.out tt1.out
                      refine hK.out _ _ (fun _ _ => hCn) ?_
                      clear hK K
                      generalize Wd.alloc (.cells #[.int .i32 ((t : Int) - 1)] 21) = W1 at *
                      try simp only [Act.put, List.setIfInBounds_toArray, List.set_cons_zero, List.set_cons_succ]
                      refine Ord.AnyC.two (i := 13) (j := 22) (o := { dst := some 96, op := Op.call { callee := Callee.builtin Builtin.append, args := #[Operand.tmp 88, Operand.tmp 95], argTypes := #[24, 24] }, type := 24, pos := "round.go:200", after := #[{ on := 5, ground := Ground.data }, { on := 12, ground := Ground.data }], guard := none }) (p := { dst := some 105, op := Op.buildSlice 43 1 #[(0, Operand.tmp 104)], type := 43, pos := "round.go:200", after := #[{ on := 21, ground := Ground.data }], guard := none }) (by kernel_rfl) rfl rfl (fun K hK => ?_) (fun K hK => ?_)
                      · skip
                        replace hK := hide hK
                        refine step_app (v := .slice ay L cy) (l := ys) (news := [(t : Int) - 1]) W1 rfl (.tmp 88) (.tmp 95) .i32 21 24 rfl i0 4 (by omega) Ybad.underlying24 hi hz0 hz1 hz2 rfl (show Own .i32 21 W1 B (.slice ay L cy) ys from rv1.out.own 8) rfl sk1.out (by simp only [List.length_cons, List.length_nil]; omega) rv1.out.hB ?_
                        intro vY wY oY tY fY
                        obtain ⟨aY, nY, cY, eY⟩ := oY.slice
                        subst eY
                        obtain ⟨tagY, rY, ttY⟩ := rv1.out.appY (.slice aY nY cY) _ tY oY fY
                        have RY := hide rY
                        have TTY := hide (tt1.out.trans ttY)
                        have hCY := HCW.out _ _ _ RY.out TTY.out
                        refine hK.out _ _ (fun _ _ => hCY) ?_
                        clear hK K rY ttY oY tY fY
                        try simp only [Act.put, List.setIfInBounds_toArray, List.set_cons_zero, List.set_cons_succ]
                        refine Ord.AnyC.one (i := 22) (o := { dst := some 105, op := Op.buildSlice 43 1 #[(0, Operand.tmp 104)], type := 43, pos := "round.go:200", after := #[{ on := 21, ground := Ground.data }], guard := none }) (by kernel_rfl) rfl (fun K hK => ?_)
                        replace hK := hide hK
                        go_simp
                        have rv2 := hide (RY.out.keep ((Tch.refl Non wY).alloc (.cells #[.int .i32 f, .int .i32 g, .int .u8 0, .int .i32 0, .int .i32 0, .int .i64 0] 64)))
                        have tt2 := hide (TTY.out.trans (TT.keep ((Tch.refl Non wY).alloc (.cells #[.int .i32 f, .int .i32 g, .int .u8 0, .int .i32 0, .int .i32 0, .int .i64 0] 64))))
                        have nb2 := hide (Blk.new wY #[.int .i32 f, .int .i32 g, .int .u8 0, .int .i32 0, .int .i32 0, .int .i64 0] 64)
                        have hCn := HCW.out _ _ _ rv2.out tt2.out
                        refine hK.out _ _ (fun _ _ => hCn) ?_
                        clear hK K
                        generalize wY.alloc (.cells #[.int .i32 f, .int .i32 g, .int .u8 0, .int .i32 0, .int .i32 0, .int .i64 0] 64) = W2 at *
                        try simp only [Act.put, List.setIfInBounds_toArray, List.set_cons_zero, List.set_cons_succ]
                        refine Ord.AnyC.one (i := 23) (o := { dst := some 106, op := Op.call { callee := Callee.builtin Builtin.append, args := #[Operand.tmp 100, Operand.tmp 105], argTypes := #[43, 43] }, type := 43, pos := "round.go:200", after := #[{ on := 17, ground := Ground.data }, { on := 22, ground := Ground.data }, { on := 13, ground := Ground.chain }], guard := none }) (by kernel_rfl) rfl (fun K hK => ?_)
                        replace hK := hide hK
                        refine step_appA (w := W2) (v := .slice aw nw cw) (n := k) (c := 1) (ad := ⟨wY.heap.size, 0, none⟩) (news := [.int .i32 f, .int .i32 g, .int .u8 0, .int .i32 0, .int .i32 0, .int .i64 0]) rfl (.tmp 100) (.tmp 105) rfl rfl (show ∃ xs, World.ownsRow W2 B 64 6 (.slice aw nw cw) k xs from rv2.out.own 9) rfl rfl (fun jj uu hjj => by rw [Go.WideShapes.add_plain, Nat.zero_add]; exact (nb2.out.cell jj).trans hjj) (by simp [Value.oneCell']) (by omega) rv2.out.hB ?_
                        intro vA wA oA tA fA
                        obtain ⟨aA, nA', cA, eA⟩ : ∃ a n c, vA = .slice a n c := by
                          rcases owns_cut oA with ⟨e, _⟩ | ⟨g, cap, e, _⟩
                          · exact ⟨_, _, _, e⟩
                          · exact ⟨_, _, _, e⟩
                        subst eA
                        obtain ⟨tagA, rA, ttA⟩ := rv2.out.appA (.slice aA nA' cA) _ tA oA fA
                        have RA := hide rA
                        have TTA := hide (tt2.out.trans ttA)
                        have hCA := HCW.out _ _ _ RA.out TTA.out
                        refine hK.out _ _ (fun _ _ => hCA) ?_
                        clear hK K rA ttA oA tA fA
                        try simp only [Act.put, List.setIfInBounds_toArray, List.set_cons_zero, List.set_cons_succ]
                        refine Ord.AnyC.takeP (i := 24) (oi := { dst := some 107, op := Op.nilCheck (Operand.tmp 83), type := 0, pos := "round.go:200", after := #[{ on := 0, ground := Ground.data }, { on := 0, ground := Ground.phase }, { on := 1, ground := Ground.textOnly Departure.lateStores }, { on := 2, ground := Ground.phase }, { on := 3, ground := Ground.phase }, { on := 4, ground := Ground.phase }, { on := 5, ground := Ground.phase }, { on := 6, ground := Ground.phase }, { on := 7, ground := Ground.phase }, { on := 8, ground := Ground.phase }, { on := 9, ground := Ground.phase }, { on := 10, ground := Ground.phase }, { on := 11, ground := Ground.phase }, { on := 12, ground := Ground.phase }, { on := 13, ground := Ground.phase }, { on := 14, ground := Ground.textOnly Departure.lateStores }, { on := 15, ground := Ground.textOnly Departure.lateStoresUnsure }, { on := 16, ground := Ground.textOnly Departure.lateStoresUnsure }, { on := 17, ground := Ground.phase }, { on := 18, ground := Ground.textOnly Departure.lateStores }, { on := 19, ground := Ground.textOnly Departure.lateStores }, { on := 20, ground := Ground.textOnly Departure.lateStoresUnsure }, { on := 21, ground := Ground.phase }, { on := 22, ground := Ground.textOnly Departure.lateStoresUnsure }, { on := 23, ground := Ground.phase }], guard := none }) (v := .pointer (some ⟨grs, 0, none⟩)) rfl (by kernel_rfl) (by kernel_rfl) (by kernel_rfl) (by decide) (fun _ _ _ h => h) (Or.inl ⟨by rfl, fun w0 _ => by go_simp⟩) (fun _ => hCA) ?_
                        try simp only [Act.put, List.setIfInBounds_toArray, List.set_cons_zero, List.set_cons_succ]
                        refine Ord.AnyC.takeP (i := 25) (oi := { dst := some 108, op := Op.fieldAddr 57 (Operand.tmp 107) 8, type := 0, pos := "round.go:200", after := #[{ on := 24, ground := Ground.data }, { on := 0, ground := Ground.phase }, { on := 1, ground := Ground.textOnly Departure.lateStores }, { on := 2, ground := Ground.phase }, { on := 3, ground := Ground.phase }, { on := 4, ground := Ground.phase }, { on := 5, ground := Ground.phase }, { on := 6, ground := Ground.phase }, { on := 7, ground := Ground.phase }, { on := 8, ground := Ground.phase }, { on := 9, ground := Ground.phase }, { on := 10, ground := Ground.phase }, { on := 11, ground := Ground.phase }, { on := 12, ground := Ground.phase }, { on := 13, ground := Ground.phase }, { on := 14, ground := Ground.textOnly Departure.lateStores }, { on := 15, ground := Ground.textOnly Departure.lateStoresUnsure }, { on := 16, ground := Ground.textOnly Departure.lateStoresUnsure }, { on := 17, ground := Ground.phase }, { on := 18, ground := Ground.textOnly Departure.lateStores }, { on := 19, ground := Ground.textOnly Departure.lateStores }, { on := 20, ground := Ground.textOnly Departure.lateStoresUnsure }, { on := 21, ground := Ground.phase }, { on := 22, ground := Ground.textOnly Departure.lateStoresUnsure }, { on := 23, ground := Ground.phase }], guard := none }) (v := .pointer (some ⟨grs, 8, none⟩)) rfl (by kernel_rfl) (by kernel_rfl) (by kernel_rfl) (by decide) (fun _ _ _ h => h) (Or.inl ⟨by rfl, fun w0 _ => by go_simp⟩) (fun _ => hCA) ?_
                        try simp only [Act.put, List.setIfInBounds_toArray, List.set_cons_zero, List.set_cons_succ]
                        refine Ord.AnyC.one (i := 26) (o := { dst := none, op := Op.store 24 (Operand.tmp 108) (Operand.tmp 96), type := 0, pos := "round.go:200", after := #[{ on := 25, ground := Ground.data }, { on := 13, ground := Ground.data }, { on := 23, ground := Ground.chain }, { on := 0, ground := Ground.phase }, { on := 1, ground := Ground.textOnly Departure.lateStores }, { on := 2, ground := Ground.phase }, { on := 3, ground := Ground.phase }, { on := 4, ground := Ground.phase }, { on := 5, ground := Ground.phase }, { on := 6, ground := Ground.phase }, { on := 7, ground := Ground.phase }, { on := 8, ground := Ground.phase }, { on := 9, ground := Ground.phase }, { on := 10, ground := Ground.phase }, { on := 11, ground := Ground.phase }, { on := 12, ground := Ground.phase }, { on := 13, ground := Ground.phase }, { on := 14, ground := Ground.textOnly Departure.lateStores }, { on := 15, ground := Ground.textOnly Departure.lateStoresUnsure }, { on := 16, ground := Ground.textOnly Departure.lateStoresUnsure }, { on := 17, ground := Ground.phase }, { on := 18, ground := Ground.textOnly Departure.lateStores }, { on := 19, ground := Ground.textOnly Departure.lateStores }, { on := 20, ground := Ground.textOnly Departure.lateStoresUnsure }, { on := 21, ground := Ground.phase }, { on := 22, ground := Ground.textOnly Departure.lateStoresUnsure }, { on := 23, ground := Ground.phase }], guard := none }) (by kernel_rfl) rfl (fun K hK => ?_)
                        replace hK := hide hK
                        have zz8 := RA.out.blk.frozen 8
                        have zz9 := RA.out.blk.frozen 9
                        have ww8 := hCA.1
                        have ww9 := hCA.2.1
                        go_simp
                        refine hK.out _ _ (fun h => absurd rfl h) ?_
                        clear hK K
                        try simp only [Act.put, List.setIfInBounds_toArray, List.set_cons_zero, List.set_cons_succ]
                        refine Ord.AnyC.takeP (i := 27) (oi := { dst := some 109, op := Op.nilCheck (Operand.tmp 84), type := 0, pos := "round.go:200", after := #[{ on := 1, ground := Ground.data }, { on := 0, ground := Ground.phase }, { on := 1, ground := Ground.phase }, { on := 2, ground := Ground.phase }, { on := 3, ground := Ground.phase }, { on := 4, ground := Ground.phase }, { on := 5, ground := Ground.phase }, { on := 6, ground := Ground.phase }, { on := 7, ground := Ground.phase }, { on := 8, ground := Ground.phase }, { on := 9, ground := Ground.phase }, { on := 10, ground := Ground.phase }, { on := 11, ground := Ground.phase }, { on := 12, ground := Ground.phase }, { on := 13, ground := Ground.phase }, { on := 14, ground := Ground.phase }, { on := 15, ground := Ground.phase }, { on := 16, ground := Ground.phase }, { on := 17, ground := Ground.phase }, { on := 18, ground := Ground.phase }, { on := 19, ground := Ground.phase }, { on := 20, ground := Ground.phase }, { on := 21, ground := Ground.phase }, { on := 22, ground := Ground.phase }, { on := 23, ground := Ground.phase }, { on := 24, ground := Ground.phase }, { on := 25, ground := Ground.phase }, { on := 26, ground := Ground.phase }], guard := none }) (v := .pointer (some ⟨grs, 0, none⟩)) rfl (by kernel_rfl) (by kernel_rfl) (by kernel_rfl) (by decide) (fun _ _ _ h => h) (Or.inl ⟨by rfl, fun w0 _ => by go_simp⟩) (fun h => no_both (by kernel_rfl) h) ?_
                        try simp only [Act.put, List.setIfInBounds_toArray, List.set_cons_zero, List.set_cons_succ]
                        refine Ord.AnyC.takeP (i := 28) (oi := { dst := some 110, op := Op.fieldAddr 57 (Operand.tmp 109) 9, type := 0, pos := "round.go:200", after := #[{ on := 27, ground := Ground.data }, { on := 0, ground := Ground.phase }, { on := 1, ground := Ground.phase }, { on := 2, ground := Ground.phase }, { on := 3, ground := Ground.phase }, { on := 4, ground := Ground.phase }, { on := 5, ground := Ground.phase }, { on := 6, ground := Ground.phase }, { on := 7, ground := Ground.phase }, { on := 8, ground := Ground.phase }, { on := 9, ground := Ground.phase }, { on := 10, ground := Ground.phase }, { on := 11, ground := Ground.phase }, { on := 12, ground := Ground.phase }, { on := 13, ground := Ground.phase }, { on := 14, ground := Ground.phase }, { on := 15, ground := Ground.phase }, { on := 16, ground := Ground.phase }, { on := 17, ground := Ground.phase }, { on := 18, ground := Ground.phase }, { on := 19, ground := Ground.phase }, { on := 20, ground := Ground.phase }, { on := 21, ground := Ground.phase }, { on := 22, ground := Ground.phase }, { on := 23, ground := Ground.phase }, { on := 24, ground := Ground.phase }, { on := 25, ground := Ground.phase }, { on := 26, ground := Ground.phase }], guard := none }) (v := .pointer (some ⟨grs, 9, none⟩)) rfl (by kernel_rfl) (by kernel_rfl) (by kernel_rfl) (by decide) (fun _ _ _ h => h) (Or.inl ⟨by rfl, fun w0 _ => by go_simp⟩) (fun h => no_both (by kernel_rfl) h) ?_
                        try simp only [Act.put, List.setIfInBounds_toArray, List.set_cons_zero, List.set_cons_succ]
                        refine Ord.AnyC.one (i := 29) (o := { dst := none, op := Op.store 43 (Operand.tmp 110) (Operand.tmp 106), type := 0, pos := "round.go:200", after := #[{ on := 28, ground := Ground.data }, { on := 23, ground := Ground.data }, { on := 26, ground := Ground.chain }, { on := 0, ground := Ground.phase }, { on := 1, ground := Ground.phase }, { on := 2, ground := Ground.phase }, { on := 3, ground := Ground.phase }, { on := 4, ground := Ground.phase }, { on := 5, ground := Ground.phase }, { on := 6, ground := Ground.phase }, { on := 7, ground := Ground.phase }, { on := 8, ground := Ground.phase }, { on := 9, ground := Ground.phase }, { on := 10, ground := Ground.phase }, { on := 11, ground := Ground.phase }, { on := 12, ground := Ground.phase }, { on := 13, ground := Ground.phase }, { on := 14, ground := Ground.phase }, { on := 15, ground := Ground.phase }, { on := 16, ground := Ground.phase }, { on := 17, ground := Ground.phase }, { on := 18, ground := Ground.phase }, { on := 19, ground := Ground.phase }, { on := 20, ground := Ground.phase }, { on := 21, ground := Ground.phase }, { on := 22, ground := Ground.phase }, { on := 23, ground := Ground.phase }, { on := 24, ground := Ground.phase }, { on := 25, ground := Ground.phase }, { on := 26, ground := Ground.phase }], guard := none }) (by kernel_rfl) rfl (fun K hK => ?_)
                        replace hK := hide hK
                        go_simp
                        refine hK.out _ _ (fun _ h => no_both (by kernel_rfl) h) ?_
                        clear hK K
                        try simp only [Act.put, List.setIfInBounds_toArray, List.set_cons_zero, List.set_cons_succ]
                        refine Ord.AnyC.done (by kernel_rfl) ?_ _
                        go_wp2_with fail
                        go_roundw
                        case rel =>
                          obtain ⟨b5, b6⟩ := RA.out.set 8 (.slice aY nY cY)
                          obtain ⟨b7, b8⟩ := b5.set 9 (.slice aA nA' cA)
                          exact ⟨j + 1, by omega, rfl, tagA, _, _, _, _, H4.out.to (RV.rs (HCS'.out ▸ b7)) ((TTA.out.trans b6).trans b8), HS'.out, by omega⟩
                        case measure => simp [intOf]; omega
                      · skip
                        replace hK := hide hK
                        go_simp
                        have rv2 := hide (rv1.out.keep ((Tch.refl Non W1).alloc (.cells #[.int .i32 f, .int .i32 g, .int .u8 0, .int .i32 0, .int .i32 0, .int .i64 0] 64)))
                        have tt2 := hide (tt1.out.trans (TT.keep ((Tch.refl Non W1).alloc (.cells #[.int .i32 f, .int .i32 g, .int .u8 0, .int .i32 0, .int .i32 0, .int .i64 0] 64))))
                        have nb2 := hide (Blk.new W1 #[.int .i32 f, .int .i32 g, .int .u8 0, .int .i32 0, .int .i32 0, .int .i64 0] 64)
                        have sk2 := hide (src_keep sk1.out ((Tch.refl Non W1).alloc (.cells #[.int .i32 f, .int .i32 g, .int .u8 0, .int .i32 0, .int .i32 0, .int .i64 0] 64)))
                        have hCn := HCW.out _ _ _ rv2.out tt2.out
                        refine hK.out _ _ (fun _ _ => hCn) ?_
                        clear hK K
                        generalize W1.alloc (.cells #[.int .i32 f, .int .i32 g, .int .u8 0, .int .i32 0, .int .i32 0, .int .i64 0] 64) = W2 at *
                        try simp only [Act.put, List.setIfInBounds_toArray, List.set_cons_zero, List.set_cons_succ]
                        refine Ord.AnyC.one (i := 13) (o := { dst := some 96, op := Op.call { callee := Callee.builtin Builtin.append, args := #[Operand.tmp 88, Operand.tmp 95], argTypes := #[24, 24] }, type := 24, pos := "round.go:200", after := #[{ on := 5, ground := Ground.data }, { on := 12, ground := Ground.data }], guard := none }) (by kernel_rfl) rfl (fun K hK => ?_)
                        replace hK := hide hK
                        refine step_app (v := .slice ay L cy) (l := ys) (news := [(t : Int) - 1]) W2 rfl (.tmp 88) (.tmp 95) .i32 21 24 rfl i0 4 (by omega) Ybad.underlying24 hi hz0 hz1 hz2 rfl (show Own .i32 21 W2 B (.slice ay L cy) ys from rv2.out.own 8) rfl sk2.out (by simp only [List.length_cons, List.length_nil]; omega) rv2.out.hB ?_
                        intro vY wY oY tY fY
                        obtain ⟨aY, nY, cY, eY⟩ := oY.slice
                        subst eY
                        obtain ⟨tagY, rY, ttY⟩ := rv2.out.appY (.slice aY nY cY) _ tY oY fY
                        have RY := hide rY
                        have TTY := hide (tt2.out.trans ttY)
                        have nb4 := hide (nb2.out.touch tY (fun hm => absurd (Rs.own_lt 8 (rv1.out.own 8) hm).2 (Nat.lt_irrefl _)))
                        have hCY := HCW.out _ _ _ RY.out TTY.out
                        refine hK.out _ _ (fun _ _ => hCY) ?_
                        clear hK K rY ttY oY tY fY
                        try simp only [Act.put, List.setIfInBounds_toArray, List.set_cons_zero, List.set_cons_succ]
                        refine Ord.AnyC.one (i := 23) (o := { dst := some 106, op := Op.call { callee := Callee.builtin Builtin.append, args := #[Operand.tmp 100, Operand.tmp 105], argTypes := #[43, 43] }, type := 43, pos := "round.go:200", after := #[{ on := 17, ground := Ground.data }, { on := 22, ground := Ground.data }, { on := 13, ground := Ground.chain }], guard := none }) (by kernel_rfl) rfl (fun K hK => ?_)
                        replace hK := hide hK
                        refine step_appA (w := wY) (v := .slice aw nw cw) (n := k) (c := 1) (ad := ⟨W1.heap.size, 0, none⟩) (news := [.int .i32 f, .int .i32 g, .int .u8 0, .int .i32 0, .int .i32 0, .int .i64 0]) rfl (.tmp 100) (.tmp 105) rfl rfl (show ∃ xs, World.ownsRow wY B 64 6 (.slice aw nw cw) k xs from RY.out.own 9) rfl rfl (fun jj uu hjj => by rw [Go.WideShapes.add_plain, Nat.zero_add]; exact (nb4.out.cell jj).trans hjj) (by simp [Value.oneCell']) (by omega) RY.out.hB ?_
                        intro vA wA oA tA fA
                        obtain ⟨aA, nA', cA, eA⟩ : ∃ a n c, vA = .slice a n c := by
                          rcases owns_cut oA with ⟨e, _⟩ | ⟨g, cap, e, _⟩
                          · exact ⟨_, _, _, e⟩
                          · exact ⟨_, _, _, e⟩
                        subst eA
                        obtain ⟨tagA, rA, ttA⟩ := RY.out.appA (.slice aA nA' cA) _ tA oA fA
                        have RA := hide rA
                        have TTA := hide (TTY.out.trans ttA)
                        have hCA := HCW.out _ _ _ RA.out TTA.out
                        refine hK.out _ _ (fun _ _ => hCA) ?_
                        clear hK K rA ttA oA tA fA
                        try simp only [Act.put, List.setIfInBounds_toArray, List.set_cons_zero, List.set_cons_succ]
                        refine Ord.AnyC.takeP (i := 24) (oi := { dst := some 107, op := Op.nilCheck (Operand.tmp 83), type := 0, pos := "round.go:200", after := #[{ on := 0, ground := Ground.data }, { on := 0, ground := Ground.phase }, { on := 1, ground := Ground.textOnly Departure.lateStores }, { on := 2, ground := Ground.phase }, { on := 3, ground := Ground.phase }, { on := 4, ground := Ground.phase }, { on := 5, ground := Ground.phase }, { on := 6, ground := Ground.phase }, { on := 7, ground := Ground.phase }, { on := 8, ground := Ground.phase }, { on := 9, ground := Ground.phase }, { on := 10, ground := Ground.phase }, { on := 11, ground := Ground.phase }, { on := 12, ground := Ground.phase }, { on := 13, ground := Ground.phase }, { on := 14, ground := Ground.textOnly Departure.lateStores }, { on := 15, ground := Ground.textOnly Departure.lateStoresUnsure }, { on := 16, ground := Ground.textOnly Departure.lateStoresUnsure }, { on := 17, ground := Ground.phase }, { on := 18, ground := Ground.textOnly Departure.lateStores }, { on := 19, ground := Ground.textOnly Departure.lateStores }, { on := 20, ground := Ground.textOnly Departure.lateStoresUnsure }, { on := 21, ground := Ground.phase }, { on := 22, ground := Ground.textOnly Departure.lateStoresUnsure }, { on := 23, ground := Ground.phase }], guard := none }) (v := .pointer (some ⟨grs, 0, none⟩)) rfl (by kernel_rfl) (by kernel_rfl) (by kernel_rfl) (by decide) (fun _ _ _ h => h) (Or.inl ⟨by rfl, fun w0 _ => by go_simp⟩) (fun _ => hCA) ?_
                        try simp only [Act.put, List.setIfInBounds_toArray, List.set_cons_zero, List.set_cons_succ]
                        refine Ord.AnyC.takeP (i := 25) (oi := { dst := some 108, op := Op.fieldAddr 57 (Operand.tmp 107) 8, type := 0, pos := "round.go:200", after := #[{ on := 24, ground := Ground.data }, { on := 0, ground := Ground.phase }, { on := 1, ground := Ground.textOnly Departure.lateStores }, { on := 2, ground := Ground.phase }, { on := 3, ground := Ground.phase }, { on := 4, ground := Ground.phase }, { on := 5, ground := Ground.phase }, { on := 6, ground := Ground.phase }, { on := 7, ground := Ground.phase }, { on := 8, ground := Ground.phase }, { on := 9, ground := Ground.phase }, { on := 10, ground := Ground.phase }, { on := 11, ground := Ground.phase }, { on := 12, ground := Ground.phase }, { on := 13, ground := Ground.phase }, { on := 14, ground := Ground.textOnly Departure.lateStores }, { on := 15, ground := Ground.textOnly Departure.lateStoresUnsure }, { on := 16, ground := Ground.textOnly Departure.lateStoresUnsure }, { on := 17, ground := Ground.phase }, { on := 18, ground := Ground.textOnly Departure.lateStores }, { on := 19, ground := Ground.textOnly Departure.lateStores }, { on := 20, ground := Ground.textOnly Departure.lateStoresUnsure }, { on := 21, ground := Ground.phase }, { on := 22, ground := Ground.textOnly Departure.lateStoresUnsure }, { on := 23, ground := Ground.phase }], guard := none }) (v := .pointer (some ⟨grs, 8, none⟩)) rfl (by kernel_rfl) (by kernel_rfl) (by kernel_rfl) (by decide) (fun _ _ _ h => h) (Or.inl ⟨by rfl, fun w0 _ => by go_simp⟩) (fun _ => hCA) ?_
                        try simp only [Act.put, List.setIfInBounds_toArray, List.set_cons_zero, List.set_cons_succ]
                        refine Ord.AnyC.one (i := 26) (o := { dst := none, op := Op.store 24 (Operand.tmp 108) (Operand.tmp 96), type := 0, pos := "round.go:200", after := #[{ on := 25, ground := Ground.data }, { on := 13, ground := Ground.data }, { on := 23, ground := Ground.chain }, { on := 0, ground := Ground.phase }, { on := 1, ground := Ground.textOnly Departure.lateStores }, { on := 2, ground := Ground.phase }, { on := 3, ground := Ground.phase }, { on := 4, ground := Ground.phase }, { on := 5, ground := Ground.phase }, { on := 6, ground := Ground.phase }, { on := 7, ground := Ground.phase }, { on := 8, ground := Ground.phase }, { on := 9, ground := Ground.phase }, { on := 10, ground := Ground.phase }, { on := 11, ground := Ground.phase }, { on := 12, ground := Ground.phase }, { on := 13, ground := Ground.phase }, { on := 14, ground := Ground.textOnly Departure.lateStores }, { on := 15, ground := Ground.textOnly Departure.lateStoresUnsure }, { on := 16, ground := Ground.textOnly Departure.lateStoresUnsure }, { on := 17, ground := Ground.phase }, { on := 18, ground := Ground.textOnly Departure.lateStores }, { on := 19, ground := Ground.textOnly Departure.lateStores }, { on := 20, ground := Ground.textOnly Departure.lateStoresUnsure }, { on := 21, ground := Ground.phase }, { on := 22, ground := Ground.textOnly Departure.lateStoresUnsure }, { on := 23, ground := Ground.phase }], guard := none }) (by kernel_rfl) rfl (fun K hK => ?_)
                        replace hK := hide hK
                        have zz8 := RA.out.blk.frozen 8
                        have zz9 := RA.out.blk.frozen 9
                        have ww8 := hCA.1
                        have ww9 := hCA.2.1
                        go_simp
                        refine hK.out _ _ (fun h => absurd rfl h) ?_
                        clear hK K
                        try simp only [Act.put, List.setIfInBounds_toArray, List.set_cons_zero, List.set_cons_succ]
                        refine Ord.AnyC.takeP (i := 27) (oi := { dst := some 109, op := Op.nilCheck (Operand.tmp 84), type := 0, pos := "round.go:200", after := #[{ on := 1, ground := Ground.data }, { on := 0, ground := Ground.phase }, { on := 1, ground := Ground.phase }, { on := 2, ground := Ground.phase }, { on := 3, ground := Ground.phase }, { on := 4, ground := Ground.phase }, { on := 5, ground := Ground.phase }, { on := 6, ground := Ground.phase }, { on := 7, ground := Ground.phase }, { on := 8, ground := Ground.phase }, { on := 9, ground := Ground.phase }, { on := 10, ground := Ground.phase }, { on := 11, ground := Ground.phase }, { on := 12, ground := Ground.phase }, { on := 13, ground := Ground.phase }, { on := 14, ground := Ground.phase }, { on := 15, ground := Ground.phase }, { on := 16, ground := Ground.phase }, { on := 17, ground := Ground.phase }, { on := 18, ground := Ground.phase }, { on := 19, ground := Ground.phase }, { on := 20, ground := Ground.phase }, { on := 21, ground := Ground.phase }, { on := 22, ground := Ground.phase }, { on := 23, ground := Ground.phase }, { on := 24, ground := Ground.phase }, { on := 25, ground := Ground.phase }, { on := 26, ground := Ground.phase }], guard := none }) (v := .pointer (some ⟨grs, 0, none⟩)) rfl (by kernel_rfl) (by kernel_rfl) (by kernel_rfl) (by decide) (fun _ _ _ h => h) (Or.inl ⟨by rfl, fun w0 _ => by go_simp⟩) (fun h => no_both (by kernel_rfl) h) ?_
                        try simp only [Act.put, List.setIfInBounds_toArray, List.set_cons_zero, List.set_cons_succ]
                        refine Ord.AnyC.takeP (i := 28) (oi := { dst := some 110, op := Op.fieldAddr 57 (Operand.tmp 109) 9, type := 0, pos := "round.go:200", after := #[{ on := 27, ground := Ground.data }, { on := 0, ground := Ground.phase }, { on := 1, ground := Ground.phase }, { on := 2, ground := Ground.phase }, { on := 3, ground := Ground.phase }, { on := 4, ground := Ground.phase }, { on := 5, ground := Ground.phase }, { on := 6, ground := Ground.phase }, { on := 7, ground := Ground.phase }, { on := 8, ground := Ground.phase }, { on := 9, ground := Ground.phase }, { on := 10, ground := Ground.phase }, { on := 11, ground := Ground.phase }, { on := 12, ground := Ground.phase }, { on := 13, ground := Ground.phase }, { on := 14, ground := Ground.phase }, { on := 15, ground := Ground.phase }, { on := 16, ground := Ground.phase }, { on := 17, ground := Ground.phase }, { on := 18, ground := Ground.phase }, { on := 19, ground := Ground.phase }, { on := 20, ground := Ground.phase }, { on := 21, ground := Ground.phase }, { on := 22, ground := Ground.phase }, { on := 23, ground := Ground.phase }, { on := 24, ground := Ground.phase }, { on := 25, ground := Ground.phase }, { on := 26, ground := Ground.phase }], guard := none }) (v := .pointer (some ⟨grs, 9, none⟩)) rfl (by kernel_rfl) (by kernel_rfl) (by kernel_rfl) (by decide) (fun _ _ _ h => h) (Or.inl ⟨by rfl, fun w0 _ => by go_simp⟩) (fun h => no_both (by kernel_rfl) h) ?_
                        try simp only [Act.put, List.setIfInBounds_toArray, List.set_cons_zero, List.set_cons_succ]
                        refine Ord.AnyC.one (i := 29) (o := { dst := none, op := Op.store 43 (Operand.tmp 110) (Operand.tmp 106), type := 0, pos := "round.go:200", after := #[{ on := 28, ground := Ground.data }, { on := 23, ground := Ground.data }, { on := 26, ground := Ground.chain }, { on := 0, ground := Ground.phase }, { on := 1, ground := Ground.phase }, { on := 2, ground := Ground.phase }, { on := 3, ground := Ground.phase }, { on := 4, ground := Ground.phase }, { on := 5, ground := Ground.phase }, { on := 6, ground := Ground.phase }, { on := 7, ground := Ground.phase }, { on := 8, ground := Ground.phase }, { on := 9, ground := Ground.phase }, { on := 10, ground := Ground.phase }, { on := 11, ground := Ground.phase }, { on := 12, ground := Ground.phase }, { on := 13, ground := Ground.phase }, { on := 14, ground := Ground.phase }, { on := 15, ground := Ground.phase }, { on := 16, ground := Ground.phase }, { on := 17, ground := Ground.phase }, { on := 18, ground := Ground.phase }, { on := 19, ground := Ground.phase }, { on := 20, ground := Ground.phase }, { on := 21, ground := Ground.phase }, { on := 22, ground := Ground.phase }, { on := 23, ground := Ground.phase }, { on := 24, ground := Ground.phase }, { on := 25, ground := Ground.phase }, { on := 26, ground := Ground.phase }], guard := none }) (by kernel_rfl) rfl (fun K hK => ?_)
                        replace hK := hide hK
                        go_simp
                        refine hK.out _ _ (fun _ h => no_both (by kernel_rfl) h) ?_
                        clear hK K
                        try simp only [Act.put, List.setIfInBounds_toArray, List.set_cons_zero, List.set_cons_succ]
                        refine Ord.AnyC.done (by kernel_rfl) ?_ _
                        go_wp2_with fail
                        go_roundw
                        case rel =>
                          obtain ⟨b5, b6⟩ := RA.out.set 8 (.slice aY nY cY)
                          obtain ⟨b7, b8⟩ := b5.set 9 (.slice aA nA' cA)
                          exact ⟨j + 1, by omega, rfl, tagA, _, _, _, _, H4.out.to (RV.rs (HCS'.out ▸ b7)) ((TTA.out.trans b6).trans b8), HS'.out, by omega⟩
                        case measure => simp [intOf]; omega
                    · skip
                      replace hK := hide hK
                      go_simp
                      have rv1 := hide (rvd.out.keep ((Tch.refl Non Wd).alloc (.cells #[.int .i32 f, .int .i32 g, .int .u8 0, .int .i32 0, .int .i32 0, .int .i64 0] 64)))
                      have tt1 := hide (ttd.out.trans (TT.keep ((Tch.refl Non Wd).alloc (.cells #[.int .i32 f, .int .i32 g, .int .u8 0, .int .i32 0, .int .i32 0, .int .i64 0] 64))))
                      have nb1 := hide (Blk.new Wd #[.int .i32 f, .int .i32 g, .int .u8 0, .int .i32 0, .int .i32 0, .int .i64 0] 64)
                      have hCn := HCW.out _ _ _ rv1.out tt1.out
                      refine hK.out _ _ (fun _ _ => hCn) ?_
                      clear hK K
                      generalize Wd.alloc (.cells #[.int .i32 f, .int .i32 g, .int .u8 0, .int .i32 0, .int .i32 0, .int .i64 0] 64) = W1 at *
                      try simp only [Act.put, List.setIfInBounds_toArray, List.set_cons_zero, List.set_cons_succ]
                      refine Ord.AnyC.one (i := 12) (o := { dst := some 95, op := Op.buildSlice 24 1 #[(0, Operand.tmp 94)], type := 24, pos := "round.go:200", after := #[{ on := 11, ground := Ground.data }], guard := none }) (by kernel_rfl) rfl (fun K hK => ?_)
                      replace hK := hide hK
                      go_simp
                      have rv2 := hide (rv1.out.keep ((Tch.refl Non W1).alloc (.cells #[.int .i32 ((t : Int) - 1)] 21)))
                      have tt2 := hide (tt1.out.trans (TT.keep ((Tch.refl Non W1).alloc (.cells #[.int .i32 ((t : Int) - 1)] 21))))
                      have sk2 := hide (Src.one .i32 21 W1 ((t : Int) - 1) 1)
                      have nb2 := hide (nb1.out.keep ((Tch.refl Non W1).alloc (.cells #[.int .i32 ((t : Int) - 1)] 21)))
                      have hCn := HCW.out _ _ _ rv2.out tt2.out
                      refine hK.out _ _ (fun _ _ => hCn) ?_
                      clear hK K
                      generalize W1.alloc (.cells #[.int .i32 ((t : Int) - 1)] 21) = W2 at *
                      try simp only [Act.put, List.setIfInBounds_toArray, List.set_cons_zero, List.set_cons_succ]
                      refine Ord.AnyC.one (i := 13) (o := { dst := some 96, op := Op.call { callee := Callee.builtin Builtin.append, args := #[Operand.tmp 88, Operand.tmp 95], argTypes := #[24, 24] }, type := 24, pos := "round.go:200", after := #[{ on := 5, ground := Ground.data }, { on := 12, ground := Ground.data }], guard := none }) (by kernel_rfl) rfl (fun K hK => ?_)
                      replace hK := hide hK
                      refine step_app (v := .slice ay L cy) (l := ys) (news := [(t : Int) - 1]) W2 rfl (.tmp 88) (.tmp 95) .i32 21 24 rfl i0 4 (by omega) Ybad.underlying24 hi hz0 hz1 hz2 rfl (show Own .i32 21 W2 B (.slice ay L cy) ys from rv2.out.own 8) rfl sk2.out (by simp only [List.length_cons, List.length_nil]; omega) rv2.out.hB ?_
                      intro vY wY oY tY fY
                      obtain ⟨aY, nY, cY, eY⟩ := oY.slice
                      subst eY
                      obtain ⟨tagY, rY, ttY⟩ := rv2.out.appY (.slice aY nY cY) _ tY oY fY
                      have RY := hide rY
                      have TTY := hide (tt2.out.trans ttY)
                      have nb4 := hide (nb2.out.touch tY (fun hm => absurd (Rs.own_lt 8 (rvd.out.own 8) hm).2 (Nat.lt_irrefl _)))
                      have hCY := HCW.out _ _ _ RY.out TTY.out
                      refine hK.out _ _ (fun _ _ => hCY) ?_
                      clear hK K rY ttY oY tY fY
                      try simp only [Act.put, List.setIfInBounds_toArray, List.set_cons_zero, List.set_cons_succ]
                      refine Ord.AnyC.one (i := 23) (o := { dst := some 106, op := Op.call { callee := Callee.builtin Builtin.append, args := #[Operand.tmp 100, Operand.tmp 105], argTypes := #[43, 43] }, type := 43, pos := "round.go:200", after := #[{ on := 17, ground := Ground.data }, { on := 22, ground := Ground.data }, { on := 13, ground := Ground.chain }], guard := none }) (by kernel_rfl) rfl (fun K hK => ?_)
                      replace hK := hide hK
                      refine step_appA (w := wY) (v := .slice aw nw cw) (n := k) (c := 1) (ad := ⟨Wd.heap.size, 0, none⟩) (news := [.int .i32 f, .int .i32 g, .int .u8 0, .int .i32 0, .int .i32 0, .int .i64 0]) rfl (.tmp 100) (.tmp 105) rfl rfl (show ∃ xs, World.ownsRow wY B 64 6 (.slice aw nw cw) k xs from RY.out.own 9) rfl rfl (fun jj uu hjj => by rw [Go.WideShapes.add_plain, Nat.zero_add]; exact (nb4.out.cell jj).trans hjj) (by simp [Value.oneCell']) (by omega) RY.out.hB ?_
                      intro vA wA oA tA fA
                      obtain ⟨aA, nA', cA, eA⟩ : ∃ a n c, vA = .slice a n c := by
                        rcases owns_cut oA with ⟨e, _⟩ | ⟨g, cap, e, _⟩
                        · exact ⟨_, _, _, e⟩
                        · exact ⟨_, _, _, e⟩
                      subst eA
                      obtain ⟨tagA, rA, ttA⟩ := RY.out.appA (.slice aA nA' cA) _ tA oA fA
                      have RA := hide rA
                      have TTA := hide (TTY.out.trans ttA)
                      have hCA := HCW.out _ _ _ RA.out TTA.out
                      refine hK.out _ _ (fun _ _ => hCA) ?_
                      clear hK K rA ttA oA tA fA
                      try simp only [Act.put, List.setIfInBounds_toArray, List.set_cons_zero, List.set_cons_succ]
                      refine Ord.AnyC.takeP (i := 24) (oi := { dst := some 107, op := Op.nilCheck (Operand.tmp 83), type := 0, pos := "round.go:200", after := #[{ on := 0, ground := Ground.data }, { on := 0, ground := Ground.phase }, { on := 1, ground := Ground.textOnly Departure.lateStores }, { on := 2, ground := Ground.phase }, { on := 3, ground := Ground.phase }, { on := 4, ground := Ground.phase }, { on := 5, ground := Ground.phase }, { on := 6, ground := Ground.phase }, { on := 7, ground := Ground.phase }, { on := 8, ground := Ground.phase }, { on := 9, ground := Ground.phase }, { on := 10, ground := Ground.phase }, { on := 11, ground := Ground.phase }, { on := 12, ground := Ground.phase }, { on := 13, ground := Ground.phase }, { on := 14, ground := Ground.textOnly Departure.lateStores }, { on := 15, ground := Ground.textOnly Departure.lateStoresUnsure }, { on := 16, ground := Ground.textOnly Departure.lateStoresUnsure }, { on := 17, ground := Ground.phase }, { on := 18, ground := Ground.textOnly Departure.lateStores }, { on := 19, ground := Ground.textOnly Departure.lateStores }, { on := 20, ground := Ground.textOnly Departure.lateStoresUnsure }, { on := 21, ground := Ground.phase }, { on := 22, ground := Ground.textOnly Departure.lateStoresUnsure }, { on := 23, ground := Ground.phase }], guard := none }) (v := .pointer (some ⟨grs, 0, none⟩)) rfl (by kernel_rfl) (by kernel_rfl) (by kernel_rfl) (by decide) (fun _ _ _ h => h) (Or.inl ⟨by rfl, fun w0 _ => by go_simp⟩) (fun _ => hCA) ?_
                      try simp only [Act.put, List.setIfInBounds_toArray, List.set_cons_zero, List.set_cons_succ]
                      refine Ord.AnyC.takeP (i := 25) (oi := { dst := some 108, op := Op.fieldAddr 57 (Operand.tmp 107) 8, type := 0, pos := "round.go:200", after := #[{ on := 24, ground := Ground.data }, { on := 0, ground := Ground.phase }, { on := 1, ground := Ground.textOnly Departure.lateStores }, { on := 2, ground := Ground.phase }, { on := 3, ground := Ground.phase }, { on := 4, ground := Ground.phase }, { on := 5, ground := Ground.phase }, { on := 6, ground := Ground.phase }, { on := 7, ground := Ground.phase }, { on := 8, ground := Ground.phase }, { on := 9, ground := Ground.phase }, { on := 10, ground := Ground.phase }, { on := 11, ground := Ground.phase }, { on := 12, ground := Ground.phase }, { on := 13, ground := Ground.phase }, { on := 14, ground := Ground.textOnly Departure.lateStores }, { on := 15, ground := Ground.textOnly Departure.lateStoresUnsure }, { on := 16, ground := Ground.textOnly Departure.lateStoresUnsure }, { on := 17, ground := Ground.phase }, { on := 18, ground := Ground.textOnly Departure.lateStores }, { on := 19, ground := Ground.textOnly Departure.lateStores }, { on := 20, ground := Ground.textOnly Departure.lateStoresUnsure }, { on := 21, ground := Ground.phase }, { on := 22, ground := Ground.textOnly Departure.lateStoresUnsure }, { on := 23, ground := Ground.phase }], guard := none }) (v := .pointer (some ⟨grs, 8, none⟩)) rfl (by kernel_rfl) (by kernel_rfl) (by kernel_rfl) (by decide) (fun _ _ _ h => h) (Or.inl ⟨by rfl, fun w0 _ => by go_simp⟩) (fun _ => hCA) ?_
                      try simp only [Act.put, List.setIfInBounds_toArray, List.set_cons_zero, List.set_cons_succ]
                      refine Ord.AnyC.one (i := 26) (o := { dst := none, op := Op.store 24 (Operand.tmp 108) (Operand.tmp 96), type := 0, pos := "round.go:200", after := #[{ on := 25, ground := Ground.data }, { on := 13, ground := Ground.data }, { on := 23, ground := Ground.chain }, { on := 0, ground := Ground.phase }, { on := 1, ground := Ground.textOnly Departure.lateStores }, { on := 2, ground := Ground.phase }, { on := 3, ground := Ground.phase }, { on := 4, ground := Ground.phase }, { on := 5, ground := Ground.phase }, { on := 6, ground := Ground.phase }, { on := 7, ground := Ground.phase }, { on := 8, ground := Ground.phase }, { on := 9, ground := Ground.phase }, { on := 10, ground := Ground.phase }, { on := 11, ground := Ground.phase }, { on := 12, ground := Ground.phase }, { on := 13, ground := Ground.phase }, { on := 14, ground := Ground.textOnly Departure.lateStores }, { on := 15, ground := Ground.textOnly Departure.lateStoresUnsure }, { on := 16, ground := Ground.textOnly Departure.lateStoresUnsure }, { on := 17, ground := Ground.phase }, { on := 18, ground := Ground.textOnly Departure.lateStores }, { on := 19, ground := Ground.textOnly Departure.lateStores }, { on := 20, ground := Ground.textOnly Departure.lateStoresUnsure }, { on := 21, ground := Ground.phase }, { on := 22, ground := Ground.textOnly Departure.lateStoresUnsure }, { on := 23, ground := Ground.phase }], guard := none }) (by kernel_rfl) rfl (fun K hK => ?_)
                      replace hK := hide hK
                      have zz8 := RA.out.blk.frozen 8
                      have zz9 := RA.out.blk.frozen 9
                      have ww8 := hCA.1
                      have ww9 := hCA.2.1
                      go_simp
                      refine hK.out _ _ (fun h => absurd rfl h) ?_
                      clear hK K
                      try simp only [Act.put, List.setIfInBounds_toArray, List.set_cons_zero, List.set_cons_succ]
                      refine Ord.AnyC.takeP (i := 27) (oi := { dst := some 109, op := Op.nilCheck (Operand.tmp 84), type := 0, pos := "round.go:200", after := #[{ on := 1, ground := Ground.data }, { on := 0, ground := Ground.phase }, { on := 1, ground := Ground.phase }, { on := 2, ground := Ground.phase }, { on := 3, ground := Ground.phase }, { on := 4, ground := Ground.phase }, { on := 5, ground := Ground.phase }, { on := 6, ground := Ground.phase }, { on := 7, ground := Ground.phase }, { on := 8, ground := Ground.phase }, { on := 9, ground := Ground.phase }, { on := 10, ground := Ground.phase }, { on := 11, ground := Ground.phase }, { on := 12, ground := Ground.phase }, { on := 13, ground := Ground.phase }, { on := 14, ground := Ground.phase }, { on := 15, ground := Ground.phase }, { on := 16, ground := Ground.phase }, { on := 17, ground := Ground.phase }, { on := 18, ground := Ground.phase }, { on := 19, ground := Ground.phase }, { on := 20, ground := Ground.phase }, { on := 21, ground := Ground.phase }, { on := 22, ground := Ground.phase }, { on := 23, ground := Ground.phase }, { on := 24, ground := Ground.phase }, { on := 25, ground := Ground.phase }, { on := 26, ground := Ground.phase }], guard := none }) (v := .pointer (some ⟨grs, 0, none⟩)) rfl (by kernel_rfl) (by kernel_rfl) (by kernel_rfl) (by decide) (fun _ _ _ h => h) (Or.inl ⟨by rfl, fun w0 _ => by go_simp⟩) (fun h => no_both (by kernel_rfl) h) ?_
                      try simp only [Act.put, List.setIfInBounds_toArray, List.set_cons_zero, List.set_cons_succ]
                      refine Ord.AnyC.takeP (i := 28) (oi := { dst := some 110, op := Op.fieldAddr 57 (Operand.tmp 109) 9, type := 0, pos := "round.go:200", after := #[{ on := 27, ground := Ground.data }, { on := 0, ground := Ground.phase }, { on := 1, ground := Ground.phase }, { on := 2, ground := Ground.phase }, { on := 3, ground := Ground.phase }, { on := 4, ground := Ground.phase }, { on := 5, ground := Ground.phase }, { on := 6, ground := Ground.phase }, { on := 7, ground := Ground.phase }, { on := 8, ground := Ground.phase }, { on := 9, ground := Ground.phase }, { on := 10, ground := Ground.phase }, { on := 11, ground := Ground.phase }, { on := 12, ground := Ground.phase }, { on := 13, ground := Ground.phase }, { on := 14, ground := Ground.phase }, { on := 15, ground := Ground.phase }, { on := 16, ground := Ground.phase }, { on := 17, ground := Ground.phase }, { on := 18, ground := Ground.phase }, { on := 19, ground := Ground.phase }, { on := 20, ground := Ground.phase }, { on := 21, ground := Ground.phase }, { on := 22, ground := Ground.phase }, { on := 23, ground := Ground.phase }, { on := 24, ground := Ground.phase }, { on := 25, ground := Ground.phase }, { on := 26, ground := Ground.phase }], guard := none }) (v := .pointer (some ⟨grs, 9, none⟩)) rfl (by kernel_rfl) (by kernel_rfl) (by kernel_rfl) (by decide) (fun _ _ _ h => h) (Or.inl ⟨by rfl, fun w0 _ => by go_simp⟩) (fun h => no_both (by kernel_rfl) h) ?_
                      try simp only [Act.put, List.setIfInBounds_toArray, List.set_cons_zero, List.set_cons_succ]
                      refine Ord.AnyC.one (i := 29) (o := { dst := none, op := Op.store 43 (Operand.tmp 110) (Operand.tmp 106), type := 0, pos := "round.go:200", after := #[{ on := 28, ground := Ground.data }, { on := 23, ground := Ground.data }, { on := 26, ground := Ground.chain }, { on := 0, ground := Ground.phase }, { on := 1, ground := Ground.phase }, { on := 2, ground := Ground.phase }, { on := 3, ground := Ground.phase }, { on := 4, ground := Ground.phase }, { on := 5, ground := Ground.phase }, { on := 6, ground := Ground.phase }, { on := 7, ground := Ground.phase }, { on := 8, ground := Ground.phase }, { on := 9, ground := Ground.phase }, { on := 10, ground := Ground.phase }, { on := 11, ground := Ground.phase }, { on := 12, ground := Ground.phase }, { on := 13, ground := Ground.phase }, { on := 14, ground := Ground.phase }, { on := 15, ground := Ground.phase }, { on := 16, ground := Ground.phase }, { on := 17, ground := Ground.phase }, { on := 18, ground := Ground.phase }, { on := 19, ground := Ground.phase }, { on := 20, ground := Ground.phase }, { on := 21, ground := Ground.phase }, { on := 22, ground := Ground.phase }, { on := 23, ground := Ground.phase }, { on := 24, ground := Ground.phase }, { on := 25, ground := Ground.phase }, { on := 26, ground := Ground.phase }], guard := none }) (by kernel_rfl) rfl (fun K hK => ?_)
                      replace hK := hide hK
                      go_simp
                      refine hK.out _ _ (fun _ h => no_both (by kernel_rfl) h) ?_
                      clear hK K
                      try simp only [Act.put, List.setIfInBounds_toArray, List.set_cons_zero, List.set_cons_succ]
                      refine Ord.AnyC.done (by kernel_rfl) ?_ _
                      go_wp2_with fail
                      go_roundw
                      case rel =>
                        obtain ⟨b5, b6⟩ := RA.out.set 8 (.slice aY nY cY)
                        obtain ⟨b7, b8⟩ := b5.set 9 (.slice aA nA' cA)
                        exact ⟨j + 1, by omega, rfl, tagA, _, _, _, _, H4.out.to (RV.rs (HCS'.out ▸ b7)) ((TTA.out.trans b6).trans b8), HS'.out, by omega⟩
                      case measure => simp [intOf]; omega
                · obtain rfl : K = j := by omega
                  have hhit := hit_of (u := u) HCS.out (ys := ys) (by have e := HXU.out; rw [← e, HKK.out.2, HKK.out.1]; exact hys)
                  have e := HXU.out
                  rw [← e] at hhit
                  have oy : Own .i32 21 wr B vy ys := h4.good.rs.own 8
                  obtain ⟨ay, L, cy, ey⟩ := oy.slice
                  subst ey
                  have hyl := oy.len
                  have k8 : wr.cell? ⟨grs, 8, none⟩ = some (.slice ay L cy) := h4.good.rs.blk.cell 8
                  have hLK : L ≤ K := by have := hys.len; omega
                  have hysn : ∀ (i : Nat) (v : Int), ys[i]? = some v → ∃ y : Nat, v = (y : Int) ∧ y < 2 * n ∧ y % 2 = 0 := by
                    intro i v hv
                    obtain ⟨q', i', e1, e2, e3, e4⟩ := hys.of i v hv
                    obtain ⟨t, hph, hhd⟩ := HCS.out.seg_of (p := x) (k := b0 + i') (by have := HKK.out.2; omega) (by have := HKK.out; omega)
                    rw [e4] at hhd
                    have e5 : (q' : Int) = (t : Int) := Option.some.inj hhd
                    have := (HA.out x t hph).2
                    exact ⟨q' - 1, e1, by omega, by omega⟩
                  have HHT := hide hhit
                  have H4 := hide h4
                  have HOY := hide oy
                  have HYN := hide hysn
                  clear h4 hys oy hysn hhit e hkj
                  by_cases hL0 : L = 0
                  · subst hL0
                    have hye : ys = [] := List.eq_nil_of_length_eq_zero hyl
                    have HNH := hide (show ¬ hit A u from fun hh => by obtain ⟨i, y, h1, _⟩ := HHT.out.1 hh; rw [hye] at h1; simp at h1)
                    clear hye
                    go_upto_region 19 with fail
                    go_quiet (fail)
                    go_wp2_with fail
                    go_roundw
                    case rel => exact ⟨1, Nat.le_refl _, rfl, tag4, _, H4.out.keep ⟨rfl, rfl, rfl, Nat.le_refl _, fun _ _ _ => rfl⟩, by show s2.srch ≤ 8 * ((u : Int) + 1); omega, fun _ => HNH.out⟩
                    case measure => simp [intOf]
                  · have b8 : decide (0 < (L : Int)) = true := by simp; omega
                    have hLp : 0 < L := by omega
                    obtain ⟨aw, nw, cw, ew⟩ : ∃ a n c, va = .slice a n c := by
                      rcases owns_cut (show ∃ xs, wr.ownsRow B 64 6 va k xs from H4.out.good.rs.own 9) with ⟨e, _⟩ | ⟨g, cap, e, _⟩
                      · exact ⟨_, _, _, e⟩
                      · exact ⟨_, _, _, e⟩
                    subst ew
                    have k9 : wr.cell? ⟨grs, 9, none⟩ = some (.slice aw nw cw) := H4.out.good.rs.blk.cell 9
                    have HA1 := hide (fun W' (t : Tch Non wr W') => any1_any W' B grs gd gg ga gh gs n m cl gr go gb cr co cb x bb al tag4 _ A st hd (H4.out.good.keep t) (H4.out.env.dg.tt (TT.keep t)) (H4.out.env.fb.tt (TT.keep t)) (H4.out.env.fg.tt (TT.keep t)) (by show s2.srch ≤ 900; omega) hx (by have := HXU.out; omega) ay L cy rfl (by omega) (.slice aw nw cw) HYN.out)
                    go_upto_region 19 with fail
                    go_cut [130] (fun v wx => ∃ b tag' s', v = .bool b ∧ At w0 B grs gd gg ga gh gs n m gr go gb cr co cb bb al cl A st hd o (u + 1) tag' s' wx ∧ s'.srch ≤ 8 * ((u : Int) + 1) ∧ (b = true ↔ hit A u))
                    case first =>
                      refine wp_region_held_drew (S := (fun w' => w'.cell? ⟨grs, 8, none⟩ = some (.slice ay L cy) ∧ w'.cell? ⟨grs, 9, none⟩ = some (.slice aw nw cw))) (by kernel_rfl) ⟨k8, k9⟩ (fun hHeld => ?_)
                      refine wpAnyH_take (i := 0) (oi := { dst := some 112, op := Op.move (Operand.tmp 0), type := 23, pos := "round.go:203", after := #[], guard := none }) (v := .pointer (some ⟨grs, 0, none⟩)) rfl (by kernel_rfl) (by kernel_rfl) (by kernel_rfl) (fun _ _ _ h => h) (Or.inl ⟨by rfl, fun w0 hSw => by (try dsimp only at hSw); go_simp⟩) (by assumption) ?_
                      try simp only [Act.put, List.setIfInBounds_toArray, List.set_cons_zero, List.set_cons_succ]
                      refine wpAnyH_take (i := 1) (oi := { dst := some 113, op := Op.nilCheck (Operand.tmp 112), type := 0, pos := "round.go:203", after := #[{ on := 0, ground := Ground.data }], guard := none }) (v := .pointer (some ⟨grs, 0, none⟩)) rfl (by kernel_rfl) (by kernel_rfl) (by kernel_rfl) (fun _ _ _ h => h) (Or.inl ⟨by rfl, fun w0 hSw => by (try dsimp only at hSw); go_simp⟩) (by assumption) ?_
                      try simp only [Act.put, List.setIfInBounds_toArray, List.set_cons_zero, List.set_cons_succ]
                      refine wpAnyH_take (i := 2) (oi := { dst := some 114, op := Op.fieldAddr 57 (Operand.tmp 113) 8, type := 0, pos := "round.go:203", after := #[{ on := 1, ground := Ground.data }], guard := none }) (v := .pointer (some ⟨grs, 8, none⟩)) rfl (by kernel_rfl) (by kernel_rfl) (by kernel_rfl) (fun _ _ _ h => h) (Or.inl ⟨by rfl, fun w0 hSw => by (try dsimp only at hSw); go_simp⟩) (by assumption) ?_
                      try simp only [Act.put, List.setIfInBounds_toArray, List.set_cons_zero, List.set_cons_succ]
                      refine wpAnyH_take (i := 3) (oi := { dst := some 115, op := Op.load 24 (Operand.tmp 114), type := 24, pos := "round.go:203", after := #[{ on := 2, ground := Ground.data }], guard := none }) (v := .slice ay L cy) rfl (by kernel_rfl) (by kernel_rfl) (by kernel_rfl) (fun _ _ _ h => h) (Or.inl ⟨by rfl, fun w0 hSw => by (try dsimp only at hSw); go_simp⟩) (by assumption) ?_
                      try simp only [Act.put, List.setIfInBounds_toArray, List.set_cons_zero, List.set_cons_succ]
                      refine wpAnyH_take (i := 4) (oi := { dst := some 116, op := Op.call { callee := Callee.builtin Builtin.len, args := #[Operand.tmp 115], argTypes := #[24] }, type := 3, pos := "round.go:203", after := #[{ on := 3, ground := Ground.data }], guard := none }) (v := .int .i64 (L : Int)) rfl (by kernel_rfl) (by kernel_rfl) (by kernel_rfl) (fun _ _ _ h => h) (Or.inl ⟨by rfl, fun w0 hSw => by (try dsimp only at hSw); go_simp⟩) (by assumption) ?_
                      try simp only [Act.put, List.setIfInBounds_toArray, List.set_cons_zero, List.set_cons_succ]
                      refine wpAnyH_take (i := 5) (oi := { dst := some 117, op := Op.binOp BinOp.gtr 3 (Operand.tmp 116) (Operand.const (Value.int IntKind.i64 0)) 3, type := 4, pos := "round.go:203", after := #[{ on := 4, ground := Ground.data }], guard := none }) (v := .bool true) rfl (by kernel_rfl) (by kernel_rfl) (by kernel_rfl) (fun _ _ _ h => h) (Or.inl ⟨by rfl, fun w0 hSw => by (try dsimp only at hSw); go_simp⟩) (by assumption) ?_
                      try simp only [Act.put, List.setIfInBounds_toArray, List.set_cons_zero, List.set_cons_succ]
                      refine wpAnyH_take (i := 6) (oi := { dst := some 118, op := Op.move (Operand.tmp 117), type := 4, pos := "round.go:203", after := #[{ on := 5, ground := Ground.data }], guard := none }) (v := .bool true) rfl (by kernel_rfl) (by kernel_rfl) (by kernel_rfl) (fun _ _ _ h => h) (Or.inl ⟨by rfl, fun w0 hSw => by (try dsimp only at hSw); go_simp⟩) (by assumption) ?_
                      try simp only [Act.put, List.setIfInBounds_toArray, List.set_cons_zero, List.set_cons_succ]
                      refine wpAnyH_take (i := 7) (oi := { dst := some 119, op := Op.move (Operand.tmp 1), type := 70, pos := "round.go:203", after := #[{ on := 6, ground := Ground.guard }], guard := some (6, true) }) (v := .func (.func 10) #[] #[.pointer (some ⟨bb, 0, none⟩)]) rfl (by kernel_rfl) (by kernel_rfl) (by kernel_rfl) (fun _ _ _ h => h) (Or.inl ⟨by rfl, fun w0 hSw => by (try dsimp only at hSw); go_simp⟩) (by assumption) ?_
                      try simp only [Act.put, List.setIfInBounds_toArray, List.set_cons_zero, List.set_cons_succ]
                      refine wpAnyH_take (i := 8) (oi := { dst := some 120, op := Op.move (Operand.tmp 8), type := 21, pos := "round.go:203", after := #[{ on := 6, ground := Ground.guard }], guard := some (6, true) }) (v := .int .i32 (x : Int)) rfl (by kernel_rfl) (by kernel_rfl) (by kernel_rfl) (fun _ _ _ h => h) (Or.inl ⟨by rfl, fun w0 hSw => by (try dsimp only at hSw); go_simp⟩) (by assumption) ?_
                      try simp only [Act.put, List.setIfInBounds_toArray, List.set_cons_zero, List.set_cons_succ]
                      refine wpAnyH_take (i := 9) (oi := { dst := some 121, op := Op.move (Operand.tmp 0), type := 23, pos := "round.go:203", after := #[{ on := 6, ground := Ground.guard }], guard := some (6, true) }) (v := .pointer (some ⟨grs, 0, none⟩)) rfl (by kernel_rfl) (by kernel_rfl) (by kernel_rfl) (fun _ _ _ h => h) (Or.inl ⟨by rfl, fun w0 hSw => by (try dsimp only at hSw); go_simp⟩) (by assumption) ?_
                      try simp only [Act.put, List.setIfInBounds_toArray, List.set_cons_zero, List.set_cons_succ]
                      refine wpAnyH_take (i := 10) (oi := { dst := some 122, op := Op.nilCheck (Operand.tmp 121), type := 0, pos := "round.go:203", after := #[{ on := 9, ground := Ground.data }, { on := 6, ground := Ground.guard }], guard := some (6, true) }) (v := .pointer (some ⟨grs, 0, none⟩)) rfl (by kernel_rfl) (by kernel_rfl) (by kernel_rfl) (fun _ _ _ h => h) (Or.inl ⟨by rfl, fun w0 hSw => by (try dsimp only at hSw); go_simp⟩) (by assumption) ?_
                      try simp only [Act.put, List.setIfInBounds_toArray, List.set_cons_zero, List.set_cons_succ]
                      refine wpAnyH_take (i := 11) (oi := { dst := some 123, op := Op.fieldAddr 57 (Operand.tmp 122) 8, type := 0, pos := "round.go:203", after := #[{ on := 10, ground := Ground.data }, { on := 6, ground := Ground.guard }], guard := some (6, true) }) (v := .pointer (some ⟨grs, 8, none⟩)) rfl (by kernel_rfl) (by kernel_rfl) (by kernel_rfl) (fun _ _ _ h => h) (Or.inl ⟨by rfl, fun w0 hSw => by (try dsimp only at hSw); go_simp⟩) (by assumption) ?_
                      try simp only [Act.put, List.setIfInBounds_toArray, List.set_cons_zero, List.set_cons_succ]
                      refine wpAnyH_take (i := 12) (oi := { dst := some 124, op := Op.load 24 (Operand.tmp 123), type := 24, pos := "round.go:203", after := #[{ on := 11, ground := Ground.data }, { on := 6, ground := Ground.guard }], guard := some (6, true) }) (v := .slice ay L cy) rfl (by kernel_rfl) (by kernel_rfl) (by kernel_rfl) (fun _ _ _ h => h) (Or.inl ⟨by rfl, fun w0 hSw => by (try dsimp only at hSw); go_simp⟩) (by assumption) ?_
                      try simp only [Act.put, List.setIfInBounds_toArray, List.set_cons_zero, List.set_cons_succ]
                      refine wpAnyH_take (i := 13) (oi := { dst := some 125, op := Op.move (Operand.tmp 0), type := 23, pos := "round.go:203", after := #[{ on := 6, ground := Ground.guard }], guard := some (6, true) }) (v := .pointer (some ⟨grs, 0, none⟩)) rfl (by kernel_rfl) (by kernel_rfl) (by kernel_rfl) (fun _ _ _ h => h) (Or.inl ⟨by rfl, fun w0 hSw => by (try dsimp only at hSw); go_simp⟩) (by assumption) ?_
                      try simp only [Act.put, List.setIfInBounds_toArray, List.set_cons_zero, List.set_cons_succ]
                      refine wpAnyH_take (i := 14) (oi := { dst := some 126, op := Op.nilCheck (Operand.tmp 125), type := 0, pos := "round.go:203", after := #[{ on := 13, ground := Ground.data }, { on := 6, ground := Ground.guard }], guard := some (6, true) }) (v := .pointer (some ⟨grs, 0, none⟩)) rfl (by kernel_rfl) (by kernel_rfl) (by kernel_rfl) (fun _ _ _ h => h) (Or.inl ⟨by rfl, fun w0 hSw => by (try dsimp only at hSw); go_simp⟩) (by assumption) ?_
                      try simp only [Act.put, List.setIfInBounds_toArray, List.set_cons_zero, List.set_cons_succ]
                      refine wpAnyH_take (i := 15) (oi := { dst := some 127, op := Op.fieldAddr 57 (Operand.tmp 126) 9, type := 0, pos := "round.go:203", after := #[{ on := 14, ground := Ground.data }, { on := 6, ground := Ground.guard }], guard := some (6, true) }) (v := .pointer (some ⟨grs, 9, none⟩)) rfl (by kernel_rfl) (by kernel_rfl) (by kernel_rfl) (fun _ _ _ h => h) (Or.inl ⟨by rfl, fun w0 hSw => by (try dsimp only at hSw); go_simp⟩) (by assumption) ?_
                      try simp only [Act.put, List.setIfInBounds_toArray, List.set_cons_zero, List.set_cons_succ]
                      refine wpAnyH_take (i := 16) (oi := { dst := some 128, op := Op.load 43 (Operand.tmp 127), type := 43, pos := "round.go:203", after := #[{ on := 15, ground := Ground.data }, { on := 6, ground := Ground.guard }], guard := some (6, true) }) (v := .slice aw nw cw) rfl (by kernel_rfl) (by kernel_rfl) (by kernel_rfl) (fun _ _ _ h => h) (Or.inl ⟨by rfl, fun w0 hSw => by (try dsimp only at hSw); go_simp⟩) (by assumption) ?_
                      try simp only [Act.put, List.setIfInBounds_toArray, List.set_cons_zero, List.set_cons_succ]
                      refine wpAnyH_ready (rs := [17]) (by kernel_rfl) (by simp) ?_
                      refine AllReadyH.cons (o := { dst := some 129, op := Op.call { callee := Callee.value (Operand.tmp 119), args := #[Operand.tmp 120, Operand.tmp 124, Operand.tmp 128], argTypes := #[21, 24, 43] }, type := 4, pos := "round.go:203", after := #[{ on := 7, ground := Ground.data }, { on := 8, ground := Ground.data }, { on := 12, ground := Ground.data }, { on := 16, ground := Ground.data }, { on := 6, ground := Ground.chain }, { on := 6, ground := Ground.guard }], guard := some (6, true) }) rfl (fun K hK => ?_) AllReadyH.nil
                      go_simp
                      go_at_call 10
                      refine (HA1.out wr.drew ⟨rfl, rfl, rfl, Nat.le_refl _, fun _ _ _ => rfl⟩).mono ?_
                      rintro e w6 ⟨b, s', tag', rfl, y1, y2, y3, y4, y5⟩
                      refine hK.out _ _ ⟨(y1.rs.blk.cell 8).trans (congrArg some y3.vy), (y1.rs.blk.cell 9).trans (congrArg some y3.va)⟩ (fun hHeld2 => ?_)
                      replace y1 := hide y1
                      replace y2 := hide y2
                      replace y4 := hide y4
                      replace y5 := hide y5
                      clear hK K hHeld y3
                      try simp only [Act.put, List.setIfInBounds_toArray, List.set_cons_zero, List.set_cons_succ]
                      refine wpAnyH_take (i := 18) (oi := { dst := some 130, op := Op.pick (Operand.tmp 118) (Operand.tmp 129) (Operand.const (Value.bool false)), type := 4, pos := "round.go:203", after := #[{ on := 6, ground := Ground.data }, { on := 17, ground := Ground.data }], guard := none }) (v := .bool b) rfl (by kernel_rfl) (by kernel_rfl) (by kernel_rfl) (fun _ _ _ h => h) (Or.inl ⟨by rfl, fun w0 hSw => by (try dsimp only at hSw); go_simp⟩) (by assumption) ?_
                      try simp only [Act.put, List.setIfInBounds_toArray, List.set_cons_zero, List.set_cons_succ]
                      refine wpAnyH_done (by kernel_rfl) ?_ _
                      go_wp2_with fail
                      go_meet
                      case rel =>
                        have tt := (TT.keep (tag := tag4) (w := wr) (w' := wr.drew) ⟨rfl, rfl, rfl, Nat.le_refl _, fun _ _ _ => rfl⟩).trans y2.out
                        exact ⟨b, tag', s', rfl, ⟨y1.out, H4.out.env.tt tt H4.out.good.rs.hB, H4.out.env.frame H4.out.frame tt⟩, by have := y4.out; have e : s'.srch ≤ s2.srch + 8 := this; omega, y5.out.trans HHT.out.symm⟩
                    case rest =>
                      obtain ⟨b, tag5, s5, rfl, h5, hs5, hb5⟩ := hcut
                      have H5 := hide h5
                      have HB5 := hide hb5
                      clear h5 hb5 HA1 H4 k8 k9
                      cases b with
                      | true =>
                        go_wp2_with fail
                        go_ret
                        exact CRet.mk true rfl H5.out (.inl ⟨rfl, u, hlt, rfl, .inr (HB5.out.1 (by first | rfl | trivial)), HNO.out⟩)
                      | false =>
                        go_wp2_with fail
                        go_roundw
                        case rel => exact ⟨1, Nat.le_refl _, rfl, tag5, s5, H5.out, by simpa using hs5, fun _ hh => by have := HB5.out.2 hh; cases this⟩
                        case measure => simp [intOf]
          · obtain rfl : l = 1 := by omega
            have H2 := hide h2
            have HNH := hide (hnh rfl)
            clear h2 hnh
            go_wp2_with fail
            go_roundw
            case rel => exact ⟨u + 1, by omega, rfl, tag2, s2, H2.out, by push_cast; simpa using hs2, fun u' hu' => by
              by_cases e : u' = u
              · subst e; exact ⟨HCN.out, HNH.out⟩
              · exact HNO.out u' (by omega)⟩
            case measure => simp [intOf]; omega
    · obtain rfl : u = n := by omega
      have H1 := hide h1
      clear h1
      go_wp2_with fail
      go_ret
      exact CRet.mk false rfl H1.out (.inr ⟨rfl, rfl, HNO.out⟩)
end Go.Proofs.YbulkaxcDoor.Cross
