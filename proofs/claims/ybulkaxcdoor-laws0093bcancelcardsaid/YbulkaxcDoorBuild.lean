/-
  The building of the digraph, by contract.
-/
import Derived.Test.YbulkaxcDoorBuild1
import Derived.Deep.RegionHeld3
namespace Go.Proofs.YbulkaxcDoor.Build
open Go Go.RowKit Go.Proofs.YbulkaxcDoor.Mem Go.Proofs.YbulkaxcDoor.Pl Go.Proofs.YbulkaxcDoor.RS Go.Proofs.YbulkaxcDoor.Dg Go.Proofs.YbulkaxcDoor.Cross
set_option linter.unusedVariables false

def BRet (w : World) (n : Nat) (e : Ending) (w' : World) : Prop :=
  ∃ A m grs gd gg ga gh gs gr go gb al cl st hd af cf at' ct, e = .returned (.tuple #[.pointer (some ⟨grs, 0, none⟩), .slice af m cf, .slice at' m ct]) ∧ Built w w' n m grs gd gg ga gh gs gr go gb al cl A st hd ∧ Own .i32 21 w' w.heap.size (.slice af m cf) (fsI A) ∧ Own .i32 21 w' w.heap.size (.slice at' m ct) (tsI A) ∧ (∀ g, (Value.slice af m cf).ownBlock = some g → g ≠ gg) ∧ ∀ g, (Value.slice at' m ct).ownBlock = some g → g ≠ gg

theorem BRet.mk {w : World} {n : Nat} {e : Ending} {w' : World} {A : List (Nat × Nat)} {m grs gd gg ga gh gs gr go gb : Nat} {al : Option Addr} {cl : Nat} {st hd : List Int} {af : Option Addr} {cf : Nat} {at' : Option Addr} {ct : Nat} (he : e = .returned (.tuple #[.pointer (some ⟨grs, 0, none⟩), .slice af m cf, .slice at' m ct])) (h : Built w w' n m grs gd gg ga gh gs gr go gb al cl A st hd) (h1 : Own .i32 21 w' w.heap.size (.slice af m cf) (fsI A)) (h2 : Own .i32 21 w' w.heap.size (.slice at' m ct) (tsI A)) (h3 : ∀ g, (Value.slice af m cf).ownBlock = some g → g ≠ gg) (h4 : ∀ g, (Value.slice at' m ct).ownBlock = some g → g ≠ gg) : BRet w n e w' :=
  ⟨A, m, grs, gd, gg, ga, gh, gs, gr, go, gb, al, cl, st, hd, af, cf, at', ct, he, h, h1, h2, h3, h4⟩

def Rel5 (w0 : World) (B gs n : Nat) (fs : List Nat) (k : Nat) (wr : World) : Prop := ∃ l, Own .i32 21 wr B (.slice (some ⟨gs, 0, none⟩) (2 * n + 1) (2 * n + 1)) l ∧ Cnt fs (2 * n) k l ∧ Tch Non w0 wr
def Rel6 (w0 : World) (B gs n : Nat) (fs : List Nat) (k : Nat) (wr : World) : Prop := ∃ l, Own .i32 21 wr B (.slice (some ⟨gs, 0, none⟩) (2 * n + 1) (2 * n + 1)) l ∧ Pl.Pre fs (2 * n) k l ∧ Tch Non w0 wr
def Rel7 (w0 : World) (B gf gh ga n m : Nat) (A : List (Nat × Nat)) (k : Nat) (wr : World) : Prop :=
  ∃ fl hl, Own .i32 21 wr B (.slice (some ⟨gf, 0, none⟩) (2 * n) (2 * n)) fl ∧ Own .i32 21 wr B (.slice (some ⟨gh, 0, none⟩) m m) hl ∧ ArcB wr ga m ∧ Fil A (2 * n) k fl hl ∧ Tch Non w0 wr

set_option maxRecDepth 10000 in
set_option maxHeartbeats 4000000 in
theorem build_any (w : World) (n M ca : Nat) (fan : Int) (aa : Option Addr) (xs : List (Nat × Nat)) (h : Arcs w aa M xs) (hn : n ≤ 8) (hn1 : 1 ≤ n) (hM : M ≤ 1024) (hf0 : 0 ≤ fan) (hf1 : fan ≤ 255) :
    Calls Ybad.prog 5 #[.int .i32 (n : Int), .slice aa M ca, .int .u8 fan] w fun e w' => BRet w n e w' := by
  obtain ⟨i0, hi, hz0, hz1, hz2⟩ := info_parts Fwd.info21
  have H := hide h
  clear h
  go_enter Ybad.func5, Ybad.ntmps5
  go_wp2_with fail
  go_loopw [10, 11, 32] (fun vf vt t wr => ∃ k : Nat, k ≤ M ∧ t = .int .i64 k ∧ ∃ A, Acc w wr n k vf vt A) (fun _ _ t _ => M - (intOf t).toNat)
  case atStart => exact ⟨0, Nat.zero_le _, rfl, [], Own.nil _ _ _ _, Own.nil _ _ _ _, by simp [Value.ownBlock], fun a b h => by simp at h, by simp, Tch.refl _ _⟩
  case round =>
    obtain ⟨k, hk, rfl, A, hA⟩ := hrel
    obtain ⟨af, nf, cf, ef⟩ := hA.f.slice
    subst ef
    obtain ⟨at', nt, ct, et⟩ := hA.t.slice
    subst et
    have HAC := hide hA
    by_cases hlt : k < M
    · obtain ⟨⟨f, t⟩, hx⟩ : ∃ x, xs[k]? = some x := ⟨xs[k]'(by rw [H.out.1]; exact hlt), List.getElem?_eq_getElem _⟩
      obtain ⟨b, off, ha, c1, c2, hf, ht⟩ := (Arcs.keep H.out hA.fr).2 k f t hx
      subst ha
      have hlA : A.length ≤ 2000 := by have := hA.len; omega
      have hlF : (fsI A).length ≤ 2000 := by rw [fsI_len]; exact hlA
      have hlT : (tsI A).length ≤ 2000 := by rw [tsI_len]; exact hlA
      have hfl : ∀ g, (Value.slice af nf cf).ownBlock = some g → g < wr.heap.size := fun g hg => (hA.f.lt hg).2
      have HFL := hide hfl
      have hsz := hA.fr.size
      have e1 : (f : Int) % (2 * (n : Int)) = ((f % (2 * n) : Nat) : Int) := by rw [Int.natCast_emod]; rfl
      have e2 : (t : Int) % (2 * (n : Int)) = ((t % (2 * n) : Nat) : Int) := by rw [Int.natCast_emod]; rfl
      have r1 : f % (2 * n) < 2 * n := Nat.mod_lt _ (by omega)
      have r2 : t % (2 * n) < 2 * n := Nat.mod_lt _ (by omega)
      have E1 := hide e1
      have E2 := hide e2
      have p1 : (0 : Int) ≤ (f : Int) % (2 * (n : Int)) := Int.emod_nonneg _ (by omega)
      have p2 : (f : Int) % (2 * (n : Int)) < 2 * (n : Int) := Int.emod_lt_of_pos _ (by omega)
      have p3 : (0 : Int) ≤ (t : Int) % (2 * (n : Int)) := Int.emod_nonneg _ (by omega)
      have p4 : (t : Int) % (2 * (n : Int)) < 2 * (n : Int) := Int.emod_lt_of_pos _ (by omega)
      clear hA hfl hx e1 e2
      go_upto_region 6 with fail
      have TB := hide ((Tch.refl Non wr).alloc (.cells #[.int .u8 (f : Int), .int .u8 (t : Int)] 60))
      have bx := Blk.new wr #[.int .u8 (f : Int), .int .u8 (t : Int)] 60
      generalize wr.alloc (.cells #[.int .u8 (f : Int), .int .u8 (t : Int)] 60) = W1 at *
      have hbl := bx.lt
      have l0 : W1.cell? ⟨wr.heap.size, 0, none⟩ = some (.int .u8 (f : Int)) := bx.cell 0
      have BX := hide bx
      have hne : ∀ g, (Value.slice af nf cf).ownBlock = some g → g ≠ wr.heap.size := fun g hg => by have := HFL.out g hg; omega
      have HNE := hide hne
      generalize wr.heap.size = bb at *
      have HOF := hide (HAC.out.f.keep TB.out)
      clear bx hne HFL
      go_upto_region 7 with (at_builtin; go_must (refine wpList_app (v := .slice af nf cf) _ rfl (.tmp 36) (.tmp 42) .i32 21 24 rfl i0 4 (by omega) Ybad.underlying24 hi hz0 hz1 hz2 rfl (by exact HOF.out.alloc _) rfl (by exact Src.one .i32 21 W1 ((f : Int) % (2 * (n : Int))) 1) (by simp only [List.length_cons, List.length_nil]; omega) (by simp only [World.size_alloc]; omega) ?_; intro v1 w1 o1 t1 f1; obtain ⟨a1, n1, cc1, ev1⟩ := o1.slice; subst ev1; replace o1 := hide o1; replace t1 := hide t1; replace f1 := hide f1))
      have bx1 := (BX.out.alloc (.cells #[.int .i32 ((f : Int) % (2 * (n : Int)))] 21)).touch t1.out (fun hm => HNE.out _ hm rfl)
      have l1 : w1.cell? ⟨bb, 1, none⟩ = some (.int .u8 (t : Int)) := bx1.cell 1
      have HTM := hide (HAC.out.mid (TB.out.alloc (.cells #[.int .i32 ((f : Int) % (2 * (n : Int)))] 21)) t1.out)
      have hs1 := t1.out.size
      simp only [World.size_alloc] at hs1
      clear bx1 l0
      go_wp2_with (at_builtin; go_must (refine wpList_app (v := .slice at' nt ct) _ rfl (.tmp 44) (.tmp 50) .i32 21 24 rfl i0 4 (by omega) Ybad.underlying24 hi hz0 hz1 hz2 rfl (by exact HTM.out.alloc _) rfl (by exact Src.one .i32 21 w1 ((t : Int) % (2 * (n : Int))) 1) (by simp only [List.length_cons, List.length_nil]; omega) (by simp only [World.size_alloc]; omega) ?_; intro v2 w2 o2 t2 f2; obtain ⟨a2, n2, cc2, ev2⟩ := o2.slice; subst ev2; replace o2 := hide o2; replace t2 := hide t2; replace f2 := hide f2))
      go_roundw
      case rel =>
        refine ⟨k + 1, by omega, rfl, _, HAC.out.step (TB.out.alloc _) ?_ t1.out f1.out ((Tch.refl Non w1).alloc _) ?_ t2.out f2.out r1 r2⟩
        · have := o1.out; rw [E1.out] at this; exact this
        · have := o2.out; rw [E2.out] at this; exact this
      case measure => simp [intOf]; omega
    · obtain rfl : M = k := by omega
      have HA0 := hide (hA.more (N' := 1024 + 0 * 24) (by omega))
      clear hA HAC hlt
      go_wp2_with fail
      go_loopw [10, 11, 14] (fun vf vt t wr => ∃ u : Nat, u ≤ n ∧ t = .int .i32 u ∧ ∃ A, Acc w wr n (1024 + u * 24) vf vt A) (fun _ _ t _ => n - (intOf t).toNat)
      case atStart => exact ⟨0, Nat.zero_le _, rfl, A, HA0.out⟩
      case round =>
        clear HA0
        obtain ⟨u, hu, rfl, A, hA⟩ := hrel
        obtain ⟨af, nf, cf, ef⟩ := hA.f.slice
        subst ef
        obtain ⟨at', nt, ct, et⟩ := hA.t.slice
        subst et
        have HAC := hide hA
        clear hA
        by_cases hlt : u < n
        · cases hbit : (bits BinOp.and IntKind.u8 (fan / 2 ^ u) 1 == 1) with
          | false =>
            go_wp2_with fail
            go_roundw
            case rel => exact ⟨u + 1, by omega, rfl, A, HAC.out.more (by omega)⟩
            case measure => simp [intOf]; omega
          | true =>
            have HA0 := hide (HAC.out.more (N' := 1024 + u * 24 + 0 * 8) (by omega))
            clear HAC
            go_wp2_with fail
            clear hbit
            go_loopw [10, 11, 15] (fun vf vt t wr => ∃ r : Nat, r ≤ 3 ∧ t = .int .i64 r ∧ ∃ A, Acc w wr n (1024 + u * 24 + r * 8) vf vt A) (fun _ _ t _ => 3 - (intOf t).toNat)
            case atStart => exact ⟨0, Nat.zero_le _, rfl, A, HA0.out⟩
            case round =>
              clear HA0
              obtain ⟨r, hr, rfl, A, hA⟩ := hrel
              obtain ⟨af, nf, cf, ef⟩ := hA.f.slice
              subst ef
              obtain ⟨at', nt, ct, et⟩ := hA.t.slice
              subst et
              by_cases hr3 : r < 3
              · have hd3 : decide ((r : Int) < 3) = true := by simp; omega
                have HA0 := hide (hA.more (N' := 1024 + u * 24 + r * 8 + 0) (by omega))
                clear hA
                go_wp2_with fail
                go_loopw [10, 11, 16] (fun vf vt t wr => ∃ v : Nat, v ≤ n ∧ t = .int .i32 v ∧ ∃ A, Acc w wr n (1024 + u * 24 + r * 8 + v) vf vt A) (fun _ _ t _ => n - (intOf t).toNat)
                case atStart => exact ⟨0, Nat.zero_le _, rfl, A, HA0.out⟩
                case round =>
                  clear HA0
                  obtain ⟨v, hv, rfl, A, hA⟩ := hrel
                  obtain ⟨af, nf, cf, ef⟩ := hA.f.slice
                  subst ef
                  obtain ⟨at', nt, ct, et⟩ := hA.t.slice
                  subst et
                  have HAC := hide hA
                  by_cases hvn : v < n
                  · by_cases huv : v = u
                    · have hb7 : ((v : Int) != (u : Int)) = false := by simp [huv]
                      have HUV := hide huv
                      clear hA huv
                      go_wp2_with fail
                      go_roundw
                      case rel => exact ⟨v + 1, by omega, rfl, A, HAC.out.more (by omega)⟩
                      case measure => simp [intOf]; omega
                    · have hb7 : ((v : Int) != (u : Int)) = true := by simp; omega
                      have hlA : A.length ≤ 2000 := by have := hA.len; omega
                      have hlF : (fsI A).length ≤ 2000 := by rw [fsI_len]; exact hlA
                      have hlT : (tsI A).length ≤ 2000 := by rw [tsI_len]; exact hlA
                      have hsz := hA.fr.size
                      have HOF := hide hA.f
                      have E1 := hide (show 2 * (u : Int) = ((2 * u : Nat) : Int) by omega)
                      have E2 := hide (show 2 * (v : Int) + 1 = ((2 * v + 1 : Nat) : Int) by omega)
                      clear hA huv
                      go_upto_region 21 with (at_builtin; go_must (refine wpList_app (v := .slice af nf cf) _ rfl (.tmp 76) (.tmp 79) .i32 21 24 rfl i0 4 (by omega) Ybad.underlying24 hi hz0 hz1 hz2 rfl (by exact HOF.out.alloc _) rfl (by exact Src.one .i32 21 wr (2 * (u : Int)) 1) (by simp only [List.length_cons, List.length_nil]; omega) (by simp only [World.size_alloc]; omega) ?_; intro v1 w1 o1 t1 f1; obtain ⟨a1, n1, cc1, ev1⟩ := o1.slice; subst ev1; replace o1 := hide o1; replace t1 := hide t1; replace f1 := hide f1))
                      have HTM := hide (HAC.out.mid ((Tch.refl Non wr).alloc (.cells #[.int .i32 (2 * (u : Int))] 21)) t1.out)
                      have hs1 := t1.out.size
                      simp only [World.size_alloc] at hs1
                      go_wp2_with (at_builtin; go_must (refine wpList_app (v := .slice at' nt ct) _ rfl (.tmp 81) (.tmp 85) .i32 21 24 rfl i0 4 (by omega) Ybad.underlying24 hi hz0 hz1 hz2 rfl (by exact HTM.out.alloc _) rfl (by exact Src.one .i32 21 w1 (2 * (v : Int) + 1) 1) (by simp only [List.length_cons, List.length_nil]; omega) (by simp only [World.size_alloc]; omega) ?_; intro v2 w2 o2 t2 f2; obtain ⟨a2, n2, cc2, ev2⟩ := o2.slice; subst ev2; replace o2 := hide o2; replace t2 := hide t2; replace f2 := hide f2))
                      go_roundw
                      case rel =>
                        refine ⟨v + 1, by omega, rfl, _, (HAC.out.step (a := 2 * u) (b := 2 * v + 1) ((Tch.refl Non wr).alloc _) ?_ t1.out f1.out ((Tch.refl Non w1).alloc _) ?_ t2.out f2.out (by omega) (by omega)).more (by omega)⟩
                        · have := o1.out; rw [E1.out] at this; exact this
                        · have := o2.out; rw [E2.out] at this; exact this
                      case measure => simp [intOf]; omega
                  · clear hA
                    go_wp2_with fail
                    go_roundw
                    case rel => exact ⟨r + 1, by omega, rfl, A, HAC.out.more (by omega)⟩
                    case measure => simp [intOf]; omega
              · have HAC := hide hA
                clear hA
                go_wp2_with fail
                go_roundw
                case rel => exact ⟨u + 1, by omega, rfl, A, HAC.out.more (by omega)⟩
                case measure => simp [intOf]; omega
        · have HA9 := hide (HAC.out.more (N' := 1300) (by omega))
          clear HAC
          have hmf : A.length = nf := by have := HA9.out.f.len; rw [fsI_len] at this; exact this
          obtain rfl : nf = nt := by have := HA9.out.t.len; rw [tsI_len] at this; omega
          have hm : nf ≤ 1300 := by have := HA9.out.len; omega
          have hfl : (fsOf A).length = nf := by unfold fsOf; rw [List.length_map]; exact hmf
          have HML := hide (And.intro hmf hfl)
          have hsz := HA9.out.fr.size
          clear hmf hfl
          go_upto_region 23 with (first
            | (refine wpList_make_full _ rfl (.tmp 88) (.tmp 88) 24 rfl wr.heap.size 21 i0 (.int .i32 0) 1 Ybad.underlying24 hi hz0 hz1 .i32 .i32 _ _ (2 * n + 1) rfl rfl (by omega) (by omega) (by rw [hz2]; omega) (by unfold maxLen; omega) (Nat.le_refl _) ?_; intro w1 hown1 hgr1; have t1 : Tch Non wr w1 := (Tch.refl _ _).of_grownBy hgr1 (by simp); have O1 := hide (Own.made hown1); have T1 := hide t1; clear hown1 hgr1 t1) | fail)
          have HR0 := hide (show Rel5 wr w.heap.size wr.heap.size n (fsOf A) 0 w1 from ⟨_, O1.out.mono hsz, Cnt.start _ _, T1.out⟩)
          have hgs1 := (O1.out.lt (g := wr.heap.size) rfl).2
          generalize hgs : wr.heap.size = gs at *
          have HGS := hide hgs
          clear O1 T1 hgs
          generalize wr = wB at *
          go_wp2_with fail
          go_loopw [92] (fun t wq => ∃ k : Nat, k ≤ nf ∧ t = .int .i64 k ∧ Rel5 wB w.heap.size gs n (fsOf A) k wq) (fun t _ => nf - (intOf t).toNat)
          case atStart => exact ⟨0, Nat.zero_le _, rfl, HR0.out⟩
          case round =>
            clear HR0
            obtain ⟨k, hk, rfl, l, q1, q2, q3⟩ := hrel
            by_cases hlt : k < nf
            · obtain ⟨⟨f, t⟩, hx⟩ : ∃ x, A[k]? = some x := ⟨A[k]'(by rw [HML.out.1]; exact hlt), List.getElem?_eq_getElem _⟩
              have hfP := (HA9.out.rg f t (List.mem_of_getElem? hx)).1
              have of := HA9.out.f.keep q3
              obtain ⟨gr, rfl⟩ : ∃ gr, af = some ⟨gr, 0, none⟩ := by
                rcases of.form with ⟨e, _⟩ | ⟨g, cap, e, _⟩
                · cases e; omega
                · injection e with e1; exact ⟨g, e1⟩
              have cf' := of.at (fsI_at hx)
              have c6 := q1.at (q2.at_ f hfP)
              have z6 := q1.frozen (f + 1)
              have HS := hide (show Rel5 wB w.heap.size gs n (fsOf A) (k + 1) (wr.setCell ⟨gs, f + 1, none⟩ (.int .i32 ((((fsOf A).take k).count f : Nat) + 1 : Int))) from ⟨_, q1.set (f + 1) _, q2.step (fsOf_at hx) hfP, q3.setCell (.inr (Nat.le_of_eq HGS.out)) _⟩)
              have hcb : ((fsOf A).take k).count f ≤ k := Nat.le_trans List.count_le_length (by rw [List.length_take]; omega)
              generalize ((fsOf A).take k).count f = c at *
              clear q1 q2 q3 of hx
              have e1 : (f : Int) < 2 * (n : Int) := by omega
              go_wp2_with fail
              go_roundw
              case rel => exact ⟨k + 1, by omega, rfl, HS.out⟩
              case measure => simp [intOf]; omega
            · obtain rfl : nf = k := by omega
              have HP0 := hide (show Rel6 wB w.heap.size gs n (fsOf A) 0 wr from ⟨l, q1, Cnt.pre (by rw [HML.out.2]; exact q2), q3⟩)
              clear q1 q2 q3 hlt
              go_wp2_with fail
              go_loopw [20] (fun t wr => ∃ k : Nat, k ≤ 2 * n ∧ t = .int .i32 k ∧ Rel6 wB w.heap.size gs n (fsOf A) k wr) (fun t _ => 2 * n - (intOf t).toNat)
              case atStart => exact ⟨0, Nat.zero_le _, rfl, HP0.out⟩
              case round =>
                clear HP0
                obtain ⟨q, hq, rfl, l, q1, q2, q3⟩ := hrel
                by_cases hlt : q < 2 * n
                · have c6 := q1.at (q2.hi q (Nat.le_refl _) hlt)
                  have c7 := q1.at (q2.lo q (Nat.le_refl _))
                  have z6 := q1.frozen (q + 1)
                  have HS := hide (show Rel6 wB w.heap.size gs n (fsOf A) (q + 1) (wr.setCell ⟨gs, q + 1, none⟩ (.int .i32 (((fsOf A).count q : Nat) + (below (fsOf A) q : Nat) : Int))) from ⟨_, q1.set (q + 1) _, q2.step hlt, q3.setCell (.inr (Nat.le_of_eq HGS.out)) _⟩)
                  have hb1 := below_le (fsOf A) (q + 1)
                  rw [below_succ, HML.out.2] at hb1
                  generalize (fsOf A).count q = c at *
                  generalize below (fsOf A) q = b at *
                  clear q1 q2 q3
                  have e1 : (q : Int) < 2 * (n : Int) + 1 := by omega
                  have e2 : (q : Int) + 1 < 2 * (n : Int) + 1 := by omega
                  go_upto_region 31 with fail
                  go_region
                  all_goals
                    go_wp2_with fail
                    go_roundw
                    case rel =>
                      obtain ⟨l3, r1, r2, r3⟩ := HS.out
                      exact ⟨q + 1, by omega, by go_num, l3, r1.keep ⟨rfl, rfl, rfl, Nat.le_refl _, fun _ _ _ => rfl⟩, r2, r3.also ⟨rfl, rfl, rfl, Nat.le_refl _, fun _ _ _ => rfl⟩⟩
                    case measure => simp [intOf]; omega
                · obtain rfl : q = 2 * n := by omega
                  have HQ1 := hide q1
                  have HQ2 := hide q2
                  have HAQ := hide (HA9.out.keep q3)
                  have hBq := q3.size
                  clear q1 q2 q3 hlt HA9
                  generalize wr = wC at *
                  go_upto_region 33 with (first
                    | (refine wpList_make_full _ rfl (.tmp 120) (.tmp 120) 24 rfl wC.heap.size 21 i0 (.int .i32 0) 1 Ybad.underlying24 hi hz0 hz1 .i32 .i32 _ _ (2 * n) rfl rfl (by omega) (by omega) (by rw [hz2]; omega) (by unfold maxLen; omega) (Nat.le_refl _) ?_; intro w5 hown5 hgr5; have t5 : Tch Non wC w5 := (Tch.refl _ _).of_grownBy hgr5 (by simp); have O5 := hide (Own.made hown5); have T5 := hide t5; clear hown5 hgr5 t5) | fail)
                  go_wp2_with fail
                  have hlen : (l.take (2 * n)).length = 2 * n := by rw [List.length_take, HQ2.out.len]; omega
                  have hsrc : ∀ (j : Nat) (x : Int), (l.take (2 * n))[j]? = some x → w5.cell? ((⟨gs, 0, none⟩ : Addr).add j) = some (.int .i32 x) := by
                    intro j x hx
                    rw [List.getElem?_take] at hx
                    split at hx
                    · rw [Go.WideShapes.add_plain, Nat.zero_add]
                      exact (HQ1.out.keep T5.out).at hx
                    · cases hx
                  obtain ⟨w6, hr6, o6, t6⟩ := Bi.run_copy (P := Ybad.prog) w5 24 3 Ybad.underlying24 Bi.size21 (cs := 2 * n + 1) (m := 2 * n + 1) O5.out hlen (by omega) hsrc
                  rw [hr6]
                  have t56 : Tch Non wC w6 := T5.out.trans t6 (fun x hx => .inr (by rw [hx]; exact Nat.le_refl _))
                  have O6 := hide o6
                  have T6 := hide t56
                  have hz6 := t56.size
                  have hl6 := (o6.lt (g := wC.heap.size) rfl).2
                  clear hr6 o6 t6 t56 hlen hsrc O5 T5
                  obtain ⟨j0, ji, jz0, jz1, jz2⟩ := info_parts info64
                  go_upto_region 36 with (first
                    | (refine wpList_make_full _ rfl (.tmp 126) (.tmp 126) 24 rfl w6.heap.size 21 i0 (.int .i32 0) 1 Ybad.underlying24 hi hz0 hz1 .i64 .i64 _ _ nf rfl rfl rfl rfl (by rw [hz2]; omega) (by unfold maxLen; omega) (Nat.le_refl _) ?_; intro w7 hown7 hgr7; have t7 : Tch Non w6 w7 := (Tch.refl _ _).of_grownBy hgr7 (by simp); have o7 := Own.made hown7; have O7 := hide o7; have T7 := hide t7; clear hown7 hgr7 t7 o7)
                    | (refine wpList_make_full _ rfl (.tmp 129) (.tmp 129) 43 rfl w7.heap.size 64 j0 (.agg #[.int .i32 0, .int .i32 0, .int .u8 0, .int .i32 0, .int .i32 0, .int .i64 0]) 6 Ybad.underlying43 ji jz0 jz1 .i64 .i64 _ _ nf rfl rfl rfl rfl (by rw [jz2]; omega) (by unfold maxLen; omega) (Nat.le_refl _) ?_; intro w8 hown8 hgr8; have t8 : Tch Non w7 w8 := (Tch.refl _ _).of_grownBy hgr8 (by simp); have o8 := ArcB.made hown8; have O8 := hide o8; have T8 := hide t8; clear hown8 hgr8 t8 o8)
                    | fail)
                  have z7 := T7.out.size
                  have z8 := T8.out.size
                  have y7 := (O7.out.lt (g := w6.heap.size) rfl).2
                  have hBs := HAQ.out.fr.size
                  have R0 : Rel7 wC w.heap.size wC.heap.size w6.heap.size w7.heap.size n nf A 0 w8 :=
                    ⟨_, _, ((O6.out.keep T7.out).keep T8.out).mono hBs, (O7.out.keep T8.out).mono (by omega), O8.out, Fil.start HQ2.out (by rw [List.length_replicate]; exact HML.out.1.symm), (T6.out.also T7.out).also T8.out⟩
                  have HR0 := hide R0
                  have n1 : wC.heap.size < w6.heap.size := hl6
                  have n2 : w6.heap.size < w7.heap.size := y7
                  have n0 : gs < wC.heap.size := (HQ1.out.lt (g := gs) rfl).2
                  have n9 : w7.heap.size < w8.heap.size := by obtain ⟨cs, hb, _⟩ := O8.out; exact hb.lt
                  clear R0 O6 O7 O8 T6 T7 T8 hz6 hl6 z7 z8 y7
                  generalize hgf : wC.heap.size = gf at *
                  generalize w6.heap.size = gh at *
                  generalize w7.heap.size = ga at *
                  have HGF := hide hgf
                  clear hgf
                  go_wp2_with fail
                  go_loopw [133] (fun t wr => ∃ k : Nat, k ≤ nf ∧ t = .int .i64 k ∧ Rel7 wC w.heap.size gf gh ga n nf A k wr) (fun t _ => nf - (intOf t).toNat)
                  case atStart => exact ⟨0, Nat.zero_le _, rfl, HR0.out⟩
                  case round =>
                    clear HR0
                    obtain ⟨k, hk, rfl, fl, hl, q1, q2, q3, q4, q5⟩ := hrel
                    by_cases hlt : k < nf
                    · obtain ⟨⟨f, t⟩, hx⟩ : ∃ x, A[k]? = some x := ⟨A[k]'(by rw [HML.out.1]; exact hlt), List.getElem?_eq_getElem _⟩
                      have hrg := HAQ.out.rg f t (List.mem_of_getElem? hx)
                      have of := HAQ.out.f.keep q5
                      have ot := HAQ.out.t.keep q5
                      obtain ⟨gr, rfl⟩ : ∃ gr, af = some ⟨gr, 0, none⟩ := by
                        rcases of.form with ⟨e, _⟩ | ⟨g, cap, e, _⟩
                        · cases e; omega
                        · injection e with e1; exact ⟨g, e1⟩
                      obtain ⟨gt, rfl⟩ : ∃ gt, at' = some ⟨gt, 0, none⟩ := by
                        rcases ot.form with ⟨e, _⟩ | ⟨g, cap, e, _⟩
                        · cases e; omega
                        · injection e with e1; exact ⟨g, e1⟩
                      have cf' := of.at (fsI_at hx)
                      have ct' := ot.at (tsI_at hx)
                      have hrl : gr < gf := by have := (HAQ.out.f.lt (g := gr) rfl).2; have := HGF.out; omega
                      have htl : gt < gf := by have := (HAQ.out.t.lt (g := gt) rfl).2; have := HGF.out; omega
                      have hfat := q4.fat f hrg.1
                      have hpl := place_lt (fsOf_at hx)
                      rw [HML.out.2] at hpl
                      have HST := hide (fun x hx' => q4.step (x := x) hx hrg.1 hx')
                      generalize hxx : below (fsOf A) f + ((fsOf A).take k).count f = x at *
                      have cF := q1.at hfat
                      obtain ⟨v7, hv7, c7⟩ := q2.cell (i := x) (by rw [q2.len]; exact hpl)
                      have z7 := q2.frozen x
                      have o2 := q2.set x (t : Int)
                      have o1 := q1.setOff (p := ⟨gh, x, none⟩) (.int .i32 (t : Int)) (by intro e; have e' : gf = gh := Option.some.inj e; omega)
                      have a3 := q3.other ((Tch.refl (fun y => y = gh) wr).setCell (p := ⟨gh, x, none⟩) (.inl rfl) (.int .i32 (t : Int))) (by omega)
                      have t5 := q5.setCell (p := ⟨gh, x, none⟩) (.inr (by rw [HGF.out]; show gf ≤ gh; omega)) (.int .i32 (t : Int))
                      have cf2 := (of.setOff (p := ⟨gh, x, none⟩) (.int .i32 (t : Int)) (by intro e; have e' : gr = gh := Option.some.inj e; omega)).at (fsI_at hx)
                      have ct2 := (ot.setOff (p := ⟨gh, x, none⟩) (.int .i32 (t : Int)) (by intro e; have e' : gt = gh := Option.some.inj e; omega)).at (tsI_at hx)
                      have HSTATE := hide (And.intro o1 (And.intro o2 (And.intro a3 t5)))
                      have HCC := hide (And.intro cf2 ct2)
                      clear hxx hx of ot q1 q2 q3 q4 q5 hv7 o1 o2 a3 t5 cf2 ct2
                      have e1 : (f : Int) < 2 * (n : Int) := by omega
                      have e2 : (x : Int) < (nf : Int) := by omega
                      have e3 : (k : Int) < (nf : Int) := by omega
                      go_upto_region 41 with fail
                      generalize wr.setCell ⟨gh, x, none⟩ (.int .i32 (t : Int)) = W at *
                      obtain ⟨o1, o2, a3, t5⟩ := HSTATE.out
                      obtain ⟨cs, hb, hcl, hsix⟩ := a3
                      obtain ⟨f0, t0, s0, s1, s2, s3, s4, s5⟩ := hsix x hpl
                      have ca0 := (hb.cell (x * 6)).trans s0
                      have ca1 := (hb.cell (x * 6 + 1)).trans s1
                      have ca2 := (hb.cell (x * 6 + 2)).trans s2
                      have ca3 := (hb.cell (x * 6 + 3)).trans s3
                      have ca4 := (hb.cell (x * 6 + 4)).trans s4
                      have ca5 := (hb.cell (x * 6 + 5)).trans s5
                      have afz := hb.frozen
                      have tp := put6_tch W ga x (f : Int) (t : Int)
                      have P1 := o1.touch tp (fun g hg e => by have e' : gf = g := Option.some.inj hg; omega)
                      have P2 := o2.touch tp (fun g hg e => by have e' : gh = g := Option.some.inj hg; omega)
                      have P3 := HSTATE.out.2.2.1.put hpl (f : Int) (t : Int)
                      have P4 := t5.trans tp (fun y hy => .inr (by rw [hy, HGF.out]; omega))
                      have P5 : (put6 W ga x (f : Int) (t : Int)).cell? ⟨gr, k, none⟩ = some (.int .i32 (f : Int)) := tp.cell HCC.out.1 (by show ¬ gr = ga; omega)
                      have HP := hide (And.intro P1 (And.intro P2 (And.intro P3 (And.intro P4 (And.intro P5 (P1.at hfat))))))
                      have HP2 := hide (show (put6 W ga x (f : Int) (t : Int)).cell? ⟨gr, k, none⟩ = some (.int .i32 (f : Int)) ∧ (put6 W ga x (f : Int) (t : Int)).cell? ⟨gt, k, none⟩ = some (.int .i32 (t : Int)) from ⟨P5, tp.cell HCC.out.2 (by show ¬ gt = ga; omega)⟩)
                      obtain ⟨X, hX⟩ : ∃ X, X = put6 W ga x (f : Int) (t : Int) := ⟨_, rfl⟩
                      rw [← hX] at HP HP2
                      unfold put6 at hX
                      have HX := hide hX
                      clear hX
                      have cfr := HCC.out.1
                      have cto := HCC.out.2
                      clear o1 o2 t5 hb hcl hsix s0 s1 s2 s3 s4 s5 tp P1 P2 P3 P4 P5 HSTATE HCC cf' ct' cF c7 z7
                      go_cut [24] (fun v wx => v = .int .i64 (k : Int) ∧ Own .i32 21 wx w.heap.size (.slice (some ⟨gf, 0, none⟩) (2 * n) (2 * n)) fl ∧ Own .i32 21 wx w.heap.size (.slice (some ⟨gh, 0, none⟩) nf nf) (hl.set x (t : Int)) ∧ ArcB wx ga nf ∧ Tch Non wC wx ∧ wx.cell? ⟨gr, k, none⟩ = some (.int .i32 (f : Int)) ∧ wx.cell? ⟨gf, f, none⟩ = some (.int .i32 (x : Int)))
                      case first =>
                        refine wp_region_held_drew (S := fun w' => w'.cell? ⟨gr, k, none⟩ = some (.int .i32 (f : Int)) ∧ w'.cell? ⟨gt, k, none⟩ = some (.int .i32 (t : Int))) (by kernel_rfl) ⟨cfr, cto⟩ (fun hHeld => ?_)
                        refine wpAnyH_take (i := 0) (oi := { dst := some 150, op := Op.move (Operand.tmp 23), type := 43, pos := "zz_law_s0093b.go:54", after := #[], guard := none }) (v := .slice (some ⟨ga, 0, none⟩) nf nf) rfl (by kernel_rfl) (by kernel_rfl) (by kernel_rfl) (fun _ _ _ h => h) (Or.inl ⟨by rfl, fun w0 hSw => by (try dsimp only at hSw); go_simp⟩) (by assumption) ?_
                        try simp only [Act.put, List.setIfInBounds_toArray, List.set_cons_zero, List.set_cons_succ]
                        refine wpAnyH_take (i := 1) (oi := { dst := some 151, op := Op.move (Operand.tmp 25), type := 21, pos := "zz_law_s0093b.go:54", after := #[], guard := none }) (v := .int .i32 (x : Int)) rfl (by kernel_rfl) (by kernel_rfl) (by kernel_rfl) (fun _ _ _ h => h) (Or.inl ⟨by rfl, fun w0 hSw => by (try dsimp only at hSw); go_simp⟩) (by assumption) ?_
                        try simp only [Act.put, List.setIfInBounds_toArray, List.set_cons_zero, List.set_cons_succ]
                        refine wpAnyH_take (i := 2) (oi := { dst := some 152, op := Op.move (Operand.tmp 10), type := 24, pos := "zz_law_s0093b.go:54", after := #[], guard := none }) (v := .slice (some ⟨gr, 0, none⟩) nf cf) rfl (by kernel_rfl) (by kernel_rfl) (by kernel_rfl) (fun _ _ _ h => h) (Or.inl ⟨by rfl, fun w0 hSw => by (try dsimp only at hSw); go_simp⟩) (by assumption) ?_
                        try simp only [Act.put, List.setIfInBounds_toArray, List.set_cons_zero, List.set_cons_succ]
                        refine wpAnyH_take (i := 3) (oi := { dst := some 153, op := Op.move (Operand.tmp 24), type := 3, pos := "zz_law_s0093b.go:54", after := #[], guard := none }) (v := .int .i64 (k : Int)) rfl (by kernel_rfl) (by kernel_rfl) (by kernel_rfl) (fun _ _ _ h => h) (Or.inl ⟨by rfl, fun w0 hSw => by (try dsimp only at hSw); go_simp⟩) (by assumption) ?_
                        try simp only [Act.put, List.setIfInBounds_toArray, List.set_cons_zero, List.set_cons_succ]
                        refine wpAnyH_take (i := 4) (oi := { dst := some 154, op := Op.indexAddr 24 (Operand.tmp 152) (Operand.tmp 153), type := 0, pos := "zz_law_s0093b.go:54", after := #[{ on := 2, ground := Ground.data }, { on := 3, ground := Ground.data }], guard := none }) (v := .pointer (some ⟨gr, k, none⟩)) rfl (by kernel_rfl) (by kernel_rfl) (by kernel_rfl) (fun _ _ _ h => h) (Or.inl ⟨by rfl, fun w0 hSw => by (try dsimp only at hSw); go_simp⟩) (by assumption) ?_
                        try simp only [Act.put, List.setIfInBounds_toArray, List.set_cons_zero, List.set_cons_succ]
                        refine wpAnyH_take (i := 5) (oi := { dst := some 155, op := Op.load 21 (Operand.tmp 154), type := 21, pos := "zz_law_s0093b.go:54", after := #[{ on := 4, ground := Ground.data }], guard := none }) (v := .int .i32 (f : Int)) rfl (by kernel_rfl) (by kernel_rfl) (by kernel_rfl) (fun _ _ _ h => h) (Or.inl ⟨by rfl, fun w0 hSw => by (try dsimp only at hSw); go_simp⟩) (by assumption) ?_
                        try simp only [Act.put, List.setIfInBounds_toArray, List.set_cons_zero, List.set_cons_succ]
                        refine wpAnyH_take (i := 6) (oi := { dst := some 156, op := Op.move (Operand.tmp 11), type := 24, pos := "zz_law_s0093b.go:54", after := #[], guard := none }) (v := .slice (some ⟨gt, 0, none⟩) nf ct) rfl (by kernel_rfl) (by kernel_rfl) (by kernel_rfl) (fun _ _ _ h => h) (Or.inl ⟨by rfl, fun w0 hSw => by (try dsimp only at hSw); go_simp⟩) (by assumption) ?_
                        try simp only [Act.put, List.setIfInBounds_toArray, List.set_cons_zero, List.set_cons_succ]
                        refine wpAnyH_take (i := 7) (oi := { dst := some 157, op := Op.move (Operand.tmp 24), type := 3, pos := "zz_law_s0093b.go:54", after := #[], guard := none }) (v := .int .i64 (k : Int)) rfl (by kernel_rfl) (by kernel_rfl) (by kernel_rfl) (fun _ _ _ h => h) (Or.inl ⟨by rfl, fun w0 hSw => by (try dsimp only at hSw); go_simp⟩) (by assumption) ?_
                        try simp only [Act.put, List.setIfInBounds_toArray, List.set_cons_zero, List.set_cons_succ]
                        refine wpAnyH_take (i := 8) (oi := { dst := some 158, op := Op.indexAddr 24 (Operand.tmp 156) (Operand.tmp 157), type := 0, pos := "zz_law_s0093b.go:54", after := #[{ on := 6, ground := Ground.data }, { on := 7, ground := Ground.data }], guard := none }) (v := .pointer (some ⟨gt, k, none⟩)) rfl (by kernel_rfl) (by kernel_rfl) (by kernel_rfl) (fun _ _ _ h => h) (Or.inl ⟨by rfl, fun w0 hSw => by (try dsimp only at hSw); go_simp⟩) (by assumption) ?_
                        try simp only [Act.put, List.setIfInBounds_toArray, List.set_cons_zero, List.set_cons_succ]
                        refine wpAnyH_take (i := 9) (oi := { dst := some 159, op := Op.load 21 (Operand.tmp 158), type := 21, pos := "zz_law_s0093b.go:54", after := #[{ on := 8, ground := Ground.data }], guard := none }) (v := .int .i32 (t : Int)) rfl (by kernel_rfl) (by kernel_rfl) (by kernel_rfl) (fun _ _ _ h => h) (Or.inl ⟨by rfl, fun w0 hSw => by (try dsimp only at hSw); go_simp⟩) (by assumption) ?_
                        try simp only [Act.put, List.setIfInBounds_toArray, List.set_cons_zero, List.set_cons_succ]
                        refine wpAnyH_take (i := 10) (oi := { dst := some 160, op := Op.build 64 #[(0, Operand.tmp 155), (1, Operand.tmp 159)], type := 64, pos := "zz_law_s0093b.go:54", after := #[{ on := 5, ground := Ground.data }, { on := 9, ground := Ground.data }], guard := none }) (v := .agg #[.int .i32 (f : Int), .int .i32 (t : Int), .int .u8 0, .int .i32 0, .int .i32 0, .int .i64 0]) rfl (by kernel_rfl) (by kernel_rfl) (by kernel_rfl) (fun _ _ _ h => h) (Or.inl ⟨by rfl, fun w0 hSw => by (try dsimp only at hSw); go_simp⟩) (by assumption) ?_
                        try simp only [Act.put, List.setIfInBounds_toArray, List.set_cons_zero, List.set_cons_succ]
                        refine wpAnyH_take (i := 11) (oi := { dst := some 161, op := Op.indexAddr 43 (Operand.tmp 150) (Operand.tmp 151), type := 0, pos := "zz_law_s0093b.go:54", after := #[{ on := 0, ground := Ground.data }, { on := 1, ground := Ground.data }, { on := 0, ground := Ground.phase }, { on := 1, ground := Ground.phase }, { on := 2, ground := Ground.phase }, { on := 3, ground := Ground.phase }, { on := 4, ground := Ground.phase }, { on := 5, ground := Ground.phase }, { on := 6, ground := Ground.phase }, { on := 7, ground := Ground.phase }, { on := 8, ground := Ground.phase }, { on := 9, ground := Ground.phase }, { on := 10, ground := Ground.phase }], guard := none }) (v := .pointer (some ⟨ga, x * 6, none⟩)) rfl (by kernel_rfl) (by kernel_rfl) (by kernel_rfl) (fun _ _ _ h => h) (Or.inl ⟨by rfl, fun w0 hSw => by (try dsimp only at hSw); go_simp⟩) (by assumption) ?_
                        try simp only [Act.put, List.setIfInBounds_toArray, List.set_cons_zero, List.set_cons_succ]
                        refine wpAnyH_ready (rs := [12]) (by kernel_rfl) (by simp) ?_
                        refine AllReadyH.cons (o := { dst := none, op := Op.store 64 (Operand.tmp 161) (Operand.tmp 160), type := 0, pos := "zz_law_s0093b.go:54", after := #[{ on := 11, ground := Ground.data }, { on := 10, ground := Ground.data }, { on := 0, ground := Ground.phase }, { on := 1, ground := Ground.phase }, { on := 2, ground := Ground.phase }, { on := 3, ground := Ground.phase }, { on := 4, ground := Ground.phase }, { on := 5, ground := Ground.phase }, { on := 6, ground := Ground.phase }, { on := 7, ground := Ground.phase }, { on := 8, ground := Ground.phase }, { on := 9, ground := Ground.phase }, { on := 10, ground := Ground.phase }], guard := none }) rfl (fun K hK => ?_) AllReadyH.nil
                        go_simp
                        rw [← HX.out]
                        refine hK.out _ _ HP2.out (fun hHeld2 => ?_)
                        clear hK K hHeld
                        try simp only [Act.put, List.setIfInBounds_toArray, List.set_cons_zero, List.set_cons_succ]
                        refine wpAnyH_done (by kernel_rfl) ?_ _
                        go_wp2_with fail
                        go_meet
                        case rel =>
                          obtain ⟨P1, P2, P3, P4, P5, P6⟩ := HP.out
                          exact ⟨rfl, P1.keep ⟨rfl, rfl, rfl, Nat.le_refl _, fun _ _ _ => rfl⟩, P2.keep ⟨rfl, rfl, rfl, Nat.le_refl _, fun _ _ _ => rfl⟩, P3.keep ⟨rfl, rfl, rfl, Nat.le_refl _, fun _ _ _ => rfl⟩, P4.also ⟨rfl, rfl, rfl, Nat.le_refl _, fun _ _ _ => rfl⟩, P5, P6⟩
                      case rest =>
                        obtain ⟨rfl, P1, P2, P3, P4, P5, P6⟩ := hcut
                        have z1 := P1.frozen f
                        have HS := hide (show Rel7 wC w.heap.size gf gh ga n nf A (k + 1) (wc.setCell ⟨gf, f, none⟩ (.int .i32 ((x : Int) + 1))) from ⟨_, _, P1.set f _, P2.setOff (p := ⟨gf, f, none⟩) _ (by intro e; have e' : gh = gf := Option.some.inj e; omega), P3.other ((Tch.refl (fun y => y = gf) wc).setCell (p := ⟨gf, f, none⟩) (.inl rfl) _) (by omega), HST.out x rfl, P4.setCell (p := ⟨gf, f, none⟩) (.inr (by rw [HGF.out]; exact Nat.le_refl _)) _⟩)
                        clear P1 P2 P3 P4 HP ca0 ca1 ca2 ca3 ca4 ca5 afz cfr cto
                        go_wp2_with fail
                        go_roundw
                        case rel => exact ⟨k + 1, by omega, rfl, HS.out⟩
                        case measure => simp [intOf]; omega
                    · obtain rfl : nf = k := by omega
                      have HR7 := hide (show Rel7 wC w.heap.size gf gh ga n nf A nf wr from ⟨fl, hl, q1, q2, q3, q4, q5⟩)
                      clear q1 q2 q3 q4 q5 hlt
                      generalize wr = wD at *
                      obtain ⟨fl', hl', q1, q2, q3, q4, q5⟩ := HR7.out
                      have HAD := hide (HAQ.out.keep q5)
                      have OST := hide (HQ1.out.keep q5)
                      have OHD := hide q2
                      have OAR := hide q3
                      have HFI := hide q4
                      have hgal : ga < wD.heap.size := by obtain ⟨cs, hb, _⟩ := q3; exact hb.lt
                      have hBD := HAD.out.fr.size
                      clear q1 q2 q3 q4 q5 HR7 HAQ HQ1
                      obtain ⟨j1, ki, kz0, kz1, kz2⟩ := info_parts info110
                      go_upto_region 45 with (first | (refine wpList_make_full _ rfl (.const (.int .i64 2)) (.const (.int .i64 2)) 52 rfl wD.heap.size 110 j1 (.agg #[.int .i8 0, .int .i8 0, .int .i8 0, .int .i8 0, .int .i8 0]) 5 Ybad.underlying52 ki kz0 kz1 .i64 .i64 _ _ 2 rfl rfl rfl rfl (by rw [kz2]; omega) (by unfold maxLen; omega) (by simp only [World.size_alloc]; omega) ?_; intro w9 hown9 hgr9; have t9 := Tch.of_grownBy (Tch.refl Non _) hgr9 (by simp); replace t9 := hide t9; clear hown9 hgr9) | fail)
                      have bg := Blk.keep (Blk.new wD _ 50) t9.out
                      have t9' := Tch.also ((Tch.refl Non wD).alloc _) t9.out
                      have hg9 := bg.lt
                      generalize hW44 : World.alloc w9 _ = W44
                      have bd := hW44 ▸ Blk.new w9 _ 54
                      have t44 : Tch Non wD W44 := by rw [← hW44]; exact t9'.alloc _
                      have BG := hide (show Blk W44 wD.heap.size 50 _ from by rw [← hW44]; exact bg.alloc _)
                      have BD := hide bd
                      have T44 := hide t44
                      have hgd := bd.lt
                      clear bg t9' bd t44 t9 hW44
                      generalize hgg : wD.heap.size = gg at *
                      generalize w9.heap.size = gd at *
                      have BG2 := hide (BG.out.keep (w' := W44.drew) ⟨rfl, rfl, rfl, Nat.le_refl _, fun _ _ _ => rfl⟩)
                      have BD2 := hide (BD.out.keep (w' := W44.drew) ⟨rfl, rfl, rfl, Nat.le_refl _, fun _ _ _ => rfl⟩)
                      have TD := hide (T44.out.also (c := W44.drew) ⟨rfl, rfl, rfl, Nat.le_refl _, fun _ _ _ => rfl⟩)
                      have hgd2 : gd < W44.drew.heap.size := hgd
                      clear BG BD T44 hgd
                      refine wp_region_held_drew (S := fun _ => True) (by kernel_rfl) trivial (fun hHeld => ?_)
                      clear hHeld
                      generalize W44.drew = Wd at *
                      refine wpAnyH_take (i := 0) (oi := { dst := some 181, op := Op.move (Operand.tmp 26), type := 55, pos := "zz_law_s0093b.go:58", after := #[], guard := none }) (v := .pointer (some ⟨gd, 0, none⟩)) rfl (by kernel_rfl) (by kernel_rfl) (by kernel_rfl) (fun _ _ _ h => h) (Or.inl ⟨by rfl, fun w0 hSw => by go_simp⟩) trivial ?_
                      try simp only [Act.put, List.setIfInBounds_toArray, List.set_cons_zero, List.set_cons_succ]
                      refine wpAnyH_take (i := 1) (oi := { dst := some 182, op := Op.move (Operand.tmp 9), type := 21, pos := "zz_law_s0093b.go:58", after := #[], guard := none }) (v := .int .i32 (2 * (n : Int))) rfl (by kernel_rfl) (by kernel_rfl) (by kernel_rfl) (fun _ _ _ h => h) (Or.inl ⟨by rfl, fun w0 hSw => by go_simp⟩) trivial ?_
                      try simp only [Act.put, List.setIfInBounds_toArray, List.set_cons_zero, List.set_cons_succ]
                      refine wpAnyH_take (i := 3) (oi := { dst := some 184, op := Op.move (Operand.tmp 9), type := 21, pos := "zz_law_s0093b.go:58", after := #[], guard := none }) (v := .int .i32 (2 * (n : Int))) rfl (by kernel_rfl) (by kernel_rfl) (by kernel_rfl) (fun _ _ _ h => h) (Or.inl ⟨by rfl, fun w0 hSw => by go_simp⟩) trivial ?_
                      try simp only [Act.put, List.setIfInBounds_toArray, List.set_cons_zero, List.set_cons_succ]
                      refine wpAnyH_take (i := 5) (oi := { dst := some 186, op := Op.move (Operand.tmp 9), type := 21, pos := "zz_law_s0093b.go:58", after := #[], guard := none }) (v := .int .i32 (2 * (n : Int))) rfl (by kernel_rfl) (by kernel_rfl) (by kernel_rfl) (fun _ _ _ h => h) (Or.inl ⟨by rfl, fun w0 hSw => by go_simp⟩) trivial ?_
                      try simp only [Act.put, List.setIfInBounds_toArray, List.set_cons_zero, List.set_cons_succ]
                      refine wpAnyH_ready (rs := [2, 4, 6]) (by kernel_rfl) (by simp) ?_
                      refine AllReadyH.cons (o := { dst := some 183, op := Op.makeSlice 24 (Operand.tmp 182) (Operand.tmp 182), type := 24, pos := "zz_law_s0093b.go:58", after := #[{ on := 1, ground := Ground.data }, { on := 1, ground := Ground.data }], guard := none }) rfl (fun K hK => ?_) (AllReadyH.cons (o := { dst := some 185, op := Op.makeSlice 24 (Operand.tmp 184) (Operand.tmp 184), type := 24, pos := "zz_law_s0093b.go:58", after := #[{ on := 3, ground := Ground.data }, { on := 3, ground := Ground.data }], guard := none }) rfl (fun K hK => ?_) (AllReadyH.cons (o := { dst := some 187, op := Op.makeSlice 24 (Operand.tmp 186) (Operand.tmp 186), type := 24, pos := "zz_law_s0093b.go:58", after := #[{ on := 5, ground := Ground.data }, { on := 5, ground := Ground.data }], guard := none }) rfl (fun K hK => ?_) (AllReadyH.nil)))
                      · skip
                        refine step_make rfl (.tmp 182) rfl n rfl (by omega) hn ?_
                        intro wx1 ox1 tx1
                        replace ox1 := hide ox1
                        replace tx1 := hide tx1
                        refine hK.out _ _ trivial (fun _ => ?_)
                        clear hK K
                        try simp only [Act.put, List.setIfInBounds_toArray, List.set_cons_zero, List.set_cons_succ]
                        refine wpAnyH_ready (rs := [4, 6]) (by kernel_rfl) (by simp) ?_
                        refine AllReadyH.cons (o := { dst := some 185, op := Op.makeSlice 24 (Operand.tmp 184) (Operand.tmp 184), type := 24, pos := "zz_law_s0093b.go:58", after := #[{ on := 3, ground := Ground.data }, { on := 3, ground := Ground.data }], guard := none }) rfl (fun K hK => ?_) (AllReadyH.cons (o := { dst := some 187, op := Op.makeSlice 24 (Operand.tmp 186) (Operand.tmp 186), type := 24, pos := "zz_law_s0093b.go:58", after := #[{ on := 5, ground := Ground.data }, { on := 5, ground := Ground.data }], guard := none }) rfl (fun K hK => ?_) (AllReadyH.nil))
                        · skip
                          refine step_make rfl (.tmp 184) rfl n rfl (by omega) hn ?_
                          intro wx2 ox2 tx2
                          replace ox2 := hide ox2
                          replace tx2 := hide tx2
                          refine hK.out _ _ trivial (fun _ => ?_)
                          clear hK K
                          try simp only [Act.put, List.setIfInBounds_toArray, List.set_cons_zero, List.set_cons_succ]
                          refine wpAnyH_ready (rs := [6]) (by kernel_rfl) (by simp) ?_
                          refine AllReadyH.cons (o := { dst := some 187, op := Op.makeSlice 24 (Operand.tmp 186) (Operand.tmp 186), type := 24, pos := "zz_law_s0093b.go:58", after := #[{ on := 5, ground := Ground.data }, { on := 5, ground := Ground.data }], guard := none }) rfl (fun K hK => ?_) (AllReadyH.nil)
                          · skip
                            refine step_make rfl (.tmp 186) rfl n rfl (by omega) hn ?_
                            intro wx3 ox3 tx3
                            replace ox3 := hide ox3
                            replace tx3 := hide tx3
                            refine hK.out _ _ trivial (fun _ => ?_)
                            clear hK K
                            try simp only [Act.put, List.setIfInBounds_toArray, List.set_cons_zero, List.set_cons_succ]
                            refine wpAnyH_take (i := 7) (oi := { dst := some 188, op := Op.build 57 #[(0, Operand.tmp 181), (1, Operand.tmp 183), (2, Operand.tmp 185), (3, Operand.tmp 187)], type := 57, pos := "zz_law_s0093b.go:58", after := #[{ on := 0, ground := Ground.data }, { on := 2, ground := Ground.data }, { on := 4, ground := Ground.data }, { on := 6, ground := Ground.data }], guard := none }) (v := .agg #[.pointer (some ⟨gd, 0, none⟩), .slice (some ⟨Wd.heap.size, 0, none⟩) (2 * n) (2 * n), .slice (some ⟨wx1.heap.size, 0, none⟩) (2 * n) (2 * n), .slice (some ⟨wx2.heap.size, 0, none⟩) (2 * n) (2 * n), .int .i32 0, .slice none 0 0, .slice none 0 0, .slice none 0 0, .slice none 0 0, .slice none 0 0, .slice none 0 0, .slice none 0 0, .int .i64 0]) rfl (by kernel_rfl) (by kernel_rfl) (by kernel_rfl) (fun _ _ _ h => h) (Or.inl ⟨by rfl, fun w0 hSw => by go_simp⟩) trivial ?_
                            try simp only [Act.put, List.setIfInBounds_toArray, List.set_cons_zero, List.set_cons_succ]
                            refine wpAnyH_ready (rs := [8]) (by kernel_rfl) (by simp) ?_
                            refine AllReadyH.cons (o := { dst := some 189, op := Op.box 57 (Operand.tmp 188), type := 23, pos := "zz_law_s0093b.go:58", after := #[{ on := 7, ground := Ground.data }], guard := none }) rfl (fun K hK => ?_) AllReadyH.nil
                            go_simp
                            refine hK.out _ _ trivial (fun _ => ?_)
                            clear hK K
                            try simp only [Act.put, List.setIfInBounds_toArray, List.set_cons_zero, List.set_cons_succ]
                            have bz := hide (Blk.new wx3 #[.pointer (some ⟨gd, 0, none⟩), .slice (some ⟨Wd.heap.size, 0, none⟩) (2 * n) (2 * n), .slice (some ⟨wx1.heap.size, 0, none⟩) (2 * n) (2 * n), .slice (some ⟨wx2.heap.size, 0, none⟩) (2 * n) (2 * n), .int .i32 0, .slice none 0 0, .slice none 0 0, .slice none 0 0, .slice none 0 0, .slice none 0 0, .slice none 0 0, .slice none 0 0, .int .i64 0] 57)
                            have tz := hide ((Tch.refl Non wx3).alloc (.cells #[.pointer (some ⟨gd, 0, none⟩), .slice (some ⟨Wd.heap.size, 0, none⟩) (2 * n) (2 * n), .slice (some ⟨wx1.heap.size, 0, none⟩) (2 * n) (2 * n), .slice (some ⟨wx2.heap.size, 0, none⟩) (2 * n) (2 * n), .int .i32 0, .slice none 0 0, .slice none 0 0, .slice none 0 0, .slice none 0 0, .slice none 0 0, .slice none 0 0, .slice none 0 0, .int .i64 0] 57))
                            generalize wx3.alloc (.cells #[.pointer (some ⟨gd, 0, none⟩), .slice (some ⟨Wd.heap.size, 0, none⟩) (2 * n) (2 * n), .slice (some ⟨wx1.heap.size, 0, none⟩) (2 * n) (2 * n), .slice (some ⟨wx2.heap.size, 0, none⟩) (2 * n) (2 * n), .int .i32 0, .slice none 0 0, .slice none 0 0, .slice none 0 0, .slice none 0 0, .slice none 0 0, .slice none 0 0, .slice none 0 0, .int .i64 0] 57) = wz at *
                            refine wpAnyH_take (i := 9) (oi := { dst := some 27, op := Op.assign (Operand.tmp 189), type := 23, pos := "zz_law_s0093b.go:58", after := #[{ on := 8, ground := Ground.data }, { on := 0, ground := Ground.phase }, { on := 1, ground := Ground.phase }, { on := 2, ground := Ground.phase }, { on := 3, ground := Ground.phase }, { on := 4, ground := Ground.phase }, { on := 5, ground := Ground.phase }, { on := 6, ground := Ground.phase }, { on := 7, ground := Ground.phase }, { on := 8, ground := Ground.phase }], guard := none }) (v := .pointer (some ⟨wx3.heap.size, 0, none⟩)) rfl (by kernel_rfl) (by kernel_rfl) (by kernel_rfl) (fun _ _ _ h => h) (Or.inl ⟨by rfl, fun w0 hSw => by go_simp⟩) trivial ?_
                            try simp only [Act.put, List.setIfInBounds_toArray, List.set_cons_zero, List.set_cons_succ]
                            refine wpAnyH_done (by kernel_rfl) ?_ _
                            go_wp2_with fail
                            go_ret3
                            have y1 := (ox1.out.lt (g := Wd.heap.size) rfl).2
                            have y2 := (ox2.out.lt (g := wx1.heap.size) rfl).2
                            have y3 := (ox3.out.lt (g := wx2.heap.size) rfl).2
                            have hD := TD.out.size
                            have tF := ((tx1.out.also tx2.out).also tx3.out).also tz.out
                            have tA := TD.out.also tF
                            refine BRet.mk (rfl) (assemble (lo := Wd.heap.size) (gr := Wd.heap.size) (go := wx1.heap.size) (gb := wx2.heap.size) (BD2.out.keep tF) (BG2.out.keep tF) rfl (OST.out.keep tA) (OHD.out.keep tA) (OAR.out.keep tA) ((((ox1.out.keep tx2.out).keep tx3.out).keep tz.out).mono (by omega)) (((ox2.out.keep tx3.out).keep tz.out).mono (by omega)) ((ox3.out.keep tz.out).mono (by omega)) bz.out HQ2.out (by rw [HML.out.1]; exact HFI.out) HML.out.1 HAD.out.rg hn hn1 (by omega) (by omega) (by omega) (by omega) (by omega) (by omega) (by omega) (by omega) (by omega) (by omega) (by omega) (by omega) (by omega) (by omega) (by omega) (by omega) (by omega) (by omega) (by omega) (by omega) (by omega) (by omega) (HAD.out.fr.also tA)) (HAD.out.f.keep tA) (HAD.out.t.keep tA) (fun g hg => by have := (HAD.out.f.lt hg).2; omega) (fun g hg => by have := (HAD.out.t.lt hg).2; omega)
                        · skip
                          refine step_make rfl (.tmp 186) rfl n rfl (by omega) hn ?_
                          intro wx2 ox2 tx2
                          replace ox2 := hide ox2
                          replace tx2 := hide tx2
                          refine hK.out _ _ trivial (fun _ => ?_)
                          clear hK K
                          try simp only [Act.put, List.setIfInBounds_toArray, List.set_cons_zero, List.set_cons_succ]
                          refine wpAnyH_ready (rs := [4]) (by kernel_rfl) (by simp) ?_
                          refine AllReadyH.cons (o := { dst := some 185, op := Op.makeSlice 24 (Operand.tmp 184) (Operand.tmp 184), type := 24, pos := "zz_law_s0093b.go:58", after := #[{ on := 3, ground := Ground.data }, { on := 3, ground := Ground.data }], guard := none }) rfl (fun K hK => ?_) (AllReadyH.nil)
                          · skip
                            refine step_make rfl (.tmp 184) rfl n rfl (by omega) hn ?_
                            intro wx3 ox3 tx3
                            replace ox3 := hide ox3
                            replace tx3 := hide tx3
                            refine hK.out _ _ trivial (fun _ => ?_)
                            clear hK K
                            try simp only [Act.put, List.setIfInBounds_toArray, List.set_cons_zero, List.set_cons_succ]
                            refine wpAnyH_take (i := 7) (oi := { dst := some 188, op := Op.build 57 #[(0, Operand.tmp 181), (1, Operand.tmp 183), (2, Operand.tmp 185), (3, Operand.tmp 187)], type := 57, pos := "zz_law_s0093b.go:58", after := #[{ on := 0, ground := Ground.data }, { on := 2, ground := Ground.data }, { on := 4, ground := Ground.data }, { on := 6, ground := Ground.data }], guard := none }) (v := .agg #[.pointer (some ⟨gd, 0, none⟩), .slice (some ⟨Wd.heap.size, 0, none⟩) (2 * n) (2 * n), .slice (some ⟨wx2.heap.size, 0, none⟩) (2 * n) (2 * n), .slice (some ⟨wx1.heap.size, 0, none⟩) (2 * n) (2 * n), .int .i32 0, .slice none 0 0, .slice none 0 0, .slice none 0 0, .slice none 0 0, .slice none 0 0, .slice none 0 0, .slice none 0 0, .int .i64 0]) rfl (by kernel_rfl) (by kernel_rfl) (by kernel_rfl) (fun _ _ _ h => h) (Or.inl ⟨by rfl, fun w0 hSw => by go_simp⟩) trivial ?_
                            try simp only [Act.put, List.setIfInBounds_toArray, List.set_cons_zero, List.set_cons_succ]
                            refine wpAnyH_ready (rs := [8]) (by kernel_rfl) (by simp) ?_
                            refine AllReadyH.cons (o := { dst := some 189, op := Op.box 57 (Operand.tmp 188), type := 23, pos := "zz_law_s0093b.go:58", after := #[{ on := 7, ground := Ground.data }], guard := none }) rfl (fun K hK => ?_) AllReadyH.nil
                            go_simp
                            refine hK.out _ _ trivial (fun _ => ?_)
                            clear hK K
                            try simp only [Act.put, List.setIfInBounds_toArray, List.set_cons_zero, List.set_cons_succ]
                            have bz := hide (Blk.new wx3 #[.pointer (some ⟨gd, 0, none⟩), .slice (some ⟨Wd.heap.size, 0, none⟩) (2 * n) (2 * n), .slice (some ⟨wx2.heap.size, 0, none⟩) (2 * n) (2 * n), .slice (some ⟨wx1.heap.size, 0, none⟩) (2 * n) (2 * n), .int .i32 0, .slice none 0 0, .slice none 0 0, .slice none 0 0, .slice none 0 0, .slice none 0 0, .slice none 0 0, .slice none 0 0, .int .i64 0] 57)
                            have tz := hide ((Tch.refl Non wx3).alloc (.cells #[.pointer (some ⟨gd, 0, none⟩), .slice (some ⟨Wd.heap.size, 0, none⟩) (2 * n) (2 * n), .slice (some ⟨wx2.heap.size, 0, none⟩) (2 * n) (2 * n), .slice (some ⟨wx1.heap.size, 0, none⟩) (2 * n) (2 * n), .int .i32 0, .slice none 0 0, .slice none 0 0, .slice none 0 0, .slice none 0 0, .slice none 0 0, .slice none 0 0, .slice none 0 0, .int .i64 0] 57))
                            generalize wx3.alloc (.cells #[.pointer (some ⟨gd, 0, none⟩), .slice (some ⟨Wd.heap.size, 0, none⟩) (2 * n) (2 * n), .slice (some ⟨wx2.heap.size, 0, none⟩) (2 * n) (2 * n), .slice (some ⟨wx1.heap.size, 0, none⟩) (2 * n) (2 * n), .int .i32 0, .slice none 0 0, .slice none 0 0, .slice none 0 0, .slice none 0 0, .slice none 0 0, .slice none 0 0, .slice none 0 0, .int .i64 0] 57) = wz at *
                            refine wpAnyH_take (i := 9) (oi := { dst := some 27, op := Op.assign (Operand.tmp 189), type := 23, pos := "zz_law_s0093b.go:58", after := #[{ on := 8, ground := Ground.data }, { on := 0, ground := Ground.phase }, { on := 1, ground := Ground.phase }, { on := 2, ground := Ground.phase }, { on := 3, ground := Ground.phase }, { on := 4, ground := Ground.phase }, { on := 5, ground := Ground.phase }, { on := 6, ground := Ground.phase }, { on := 7, ground := Ground.phase }, { on := 8, ground := Ground.phase }], guard := none }) (v := .pointer (some ⟨wx3.heap.size, 0, none⟩)) rfl (by kernel_rfl) (by kernel_rfl) (by kernel_rfl) (fun _ _ _ h => h) (Or.inl ⟨by rfl, fun w0 hSw => by go_simp⟩) trivial ?_
                            try simp only [Act.put, List.setIfInBounds_toArray, List.set_cons_zero, List.set_cons_succ]
                            refine wpAnyH_done (by kernel_rfl) ?_ _
                            go_wp2_with fail
                            go_ret3
                            have y1 := (ox1.out.lt (g := Wd.heap.size) rfl).2
                            have y2 := (ox2.out.lt (g := wx1.heap.size) rfl).2
                            have y3 := (ox3.out.lt (g := wx2.heap.size) rfl).2
                            have hD := TD.out.size
                            have tF := ((tx1.out.also tx2.out).also tx3.out).also tz.out
                            have tA := TD.out.also tF
                            refine BRet.mk (rfl) (assemble (lo := Wd.heap.size) (gr := Wd.heap.size) (go := wx2.heap.size) (gb := wx1.heap.size) (BD2.out.keep tF) (BG2.out.keep tF) rfl (OST.out.keep tA) (OHD.out.keep tA) (OAR.out.keep tA) ((((ox1.out.keep tx2.out).keep tx3.out).keep tz.out).mono (by omega)) ((ox3.out.keep tz.out).mono (by omega)) (((ox2.out.keep tx3.out).keep tz.out).mono (by omega)) bz.out HQ2.out (by rw [HML.out.1]; exact HFI.out) HML.out.1 HAD.out.rg hn hn1 (by omega) (by omega) (by omega) (by omega) (by omega) (by omega) (by omega) (by omega) (by omega) (by omega) (by omega) (by omega) (by omega) (by omega) (by omega) (by omega) (by omega) (by omega) (by omega) (by omega) (by omega) (by omega) (HAD.out.fr.also tA)) (HAD.out.f.keep tA) (HAD.out.t.keep tA) (fun g hg => by have := (HAD.out.f.lt hg).2; omega) (fun g hg => by have := (HAD.out.t.lt hg).2; omega)
                      · skip
                        refine step_make rfl (.tmp 184) rfl n rfl (by omega) hn ?_
                        intro wx1 ox1 tx1
                        replace ox1 := hide ox1
                        replace tx1 := hide tx1
                        refine hK.out _ _ trivial (fun _ => ?_)
                        clear hK K
                        try simp only [Act.put, List.setIfInBounds_toArray, List.set_cons_zero, List.set_cons_succ]
                        refine wpAnyH_ready (rs := [2, 6]) (by kernel_rfl) (by simp) ?_
                        refine AllReadyH.cons (o := { dst := some 183, op := Op.makeSlice 24 (Operand.tmp 182) (Operand.tmp 182), type := 24, pos := "zz_law_s0093b.go:58", after := #[{ on := 1, ground := Ground.data }, { on := 1, ground := Ground.data }], guard := none }) rfl (fun K hK => ?_) (AllReadyH.cons (o := { dst := some 187, op := Op.makeSlice 24 (Operand.tmp 186) (Operand.tmp 186), type := 24, pos := "zz_law_s0093b.go:58", after := #[{ on := 5, ground := Ground.data }, { on := 5, ground := Ground.data }], guard := none }) rfl (fun K hK => ?_) (AllReadyH.nil))
                        · skip
                          refine step_make rfl (.tmp 182) rfl n rfl (by omega) hn ?_
                          intro wx2 ox2 tx2
                          replace ox2 := hide ox2
                          replace tx2 := hide tx2
                          refine hK.out _ _ trivial (fun _ => ?_)
                          clear hK K
                          try simp only [Act.put, List.setIfInBounds_toArray, List.set_cons_zero, List.set_cons_succ]
                          refine wpAnyH_ready (rs := [6]) (by kernel_rfl) (by simp) ?_
                          refine AllReadyH.cons (o := { dst := some 187, op := Op.makeSlice 24 (Operand.tmp 186) (Operand.tmp 186), type := 24, pos := "zz_law_s0093b.go:58", after := #[{ on := 5, ground := Ground.data }, { on := 5, ground := Ground.data }], guard := none }) rfl (fun K hK => ?_) (AllReadyH.nil)
                          · skip
                            refine step_make rfl (.tmp 186) rfl n rfl (by omega) hn ?_
                            intro wx3 ox3 tx3
                            replace ox3 := hide ox3
                            replace tx3 := hide tx3
                            refine hK.out _ _ trivial (fun _ => ?_)
                            clear hK K
                            try simp only [Act.put, List.setIfInBounds_toArray, List.set_cons_zero, List.set_cons_succ]
                            refine wpAnyH_take (i := 7) (oi := { dst := some 188, op := Op.build 57 #[(0, Operand.tmp 181), (1, Operand.tmp 183), (2, Operand.tmp 185), (3, Operand.tmp 187)], type := 57, pos := "zz_law_s0093b.go:58", after := #[{ on := 0, ground := Ground.data }, { on := 2, ground := Ground.data }, { on := 4, ground := Ground.data }, { on := 6, ground := Ground.data }], guard := none }) (v := .agg #[.pointer (some ⟨gd, 0, none⟩), .slice (some ⟨wx1.heap.size, 0, none⟩) (2 * n) (2 * n), .slice (some ⟨Wd.heap.size, 0, none⟩) (2 * n) (2 * n), .slice (some ⟨wx2.heap.size, 0, none⟩) (2 * n) (2 * n), .int .i32 0, .slice none 0 0, .slice none 0 0, .slice none 0 0, .slice none 0 0, .slice none 0 0, .slice none 0 0, .slice none 0 0, .int .i64 0]) rfl (by kernel_rfl) (by kernel_rfl) (by kernel_rfl) (fun _ _ _ h => h) (Or.inl ⟨by rfl, fun w0 hSw => by go_simp⟩) trivial ?_
                            try simp only [Act.put, List.setIfInBounds_toArray, List.set_cons_zero, List.set_cons_succ]
                            refine wpAnyH_ready (rs := [8]) (by kernel_rfl) (by simp) ?_
                            refine AllReadyH.cons (o := { dst := some 189, op := Op.box 57 (Operand.tmp 188), type := 23, pos := "zz_law_s0093b.go:58", after := #[{ on := 7, ground := Ground.data }], guard := none }) rfl (fun K hK => ?_) AllReadyH.nil
                            go_simp
                            refine hK.out _ _ trivial (fun _ => ?_)
                            clear hK K
                            try simp only [Act.put, List.setIfInBounds_toArray, List.set_cons_zero, List.set_cons_succ]
                            have bz := hide (Blk.new wx3 #[.pointer (some ⟨gd, 0, none⟩), .slice (some ⟨wx1.heap.size, 0, none⟩) (2 * n) (2 * n), .slice (some ⟨Wd.heap.size, 0, none⟩) (2 * n) (2 * n), .slice (some ⟨wx2.heap.size, 0, none⟩) (2 * n) (2 * n), .int .i32 0, .slice none 0 0, .slice none 0 0, .slice none 0 0, .slice none 0 0, .slice none 0 0, .slice none 0 0, .slice none 0 0, .int .i64 0] 57)
                            have tz := hide ((Tch.refl Non wx3).alloc (.cells #[.pointer (some ⟨gd, 0, none⟩), .slice (some ⟨wx1.heap.size, 0, none⟩) (2 * n) (2 * n), .slice (some ⟨Wd.heap.size, 0, none⟩) (2 * n) (2 * n), .slice (some ⟨wx2.heap.size, 0, none⟩) (2 * n) (2 * n), .int .i32 0, .slice none 0 0, .slice none 0 0, .slice none 0 0, .slice none 0 0, .slice none 0 0, .slice none 0 0, .slice none 0 0, .int .i64 0] 57))
                            generalize wx3.alloc (.cells #[.pointer (some ⟨gd, 0, none⟩), .slice (some ⟨wx1.heap.size, 0, none⟩) (2 * n) (2 * n), .slice (some ⟨Wd.heap.size, 0, none⟩) (2 * n) (2 * n), .slice (some ⟨wx2.heap.size, 0, none⟩) (2 * n) (2 * n), .int .i32 0, .slice none 0 0, .slice none 0 0, .slice none 0 0, .slice none 0 0, .slice none 0 0, .slice none 0 0, .slice none 0 0, .int .i64 0] 57) = wz at *
                            refine wpAnyH_take (i := 9) (oi := { dst := some 27, op := Op.assign (Operand.tmp 189), type := 23, pos := "zz_law_s0093b.go:58", after := #[{ on := 8, ground := Ground.data }, { on := 0, ground := Ground.phase }, { on := 1, ground := Ground.phase }, { on := 2, ground := Ground.phase }, { on := 3, ground := Ground.phase }, { on := 4, ground := Ground.phase }, { on := 5, ground := Ground.phase }, { on := 6, ground := Ground.phase }, { on := 7, ground := Ground.phase }, { on := 8, ground := Ground.phase }], guard := none }) (v := .pointer (some ⟨wx3.heap.size, 0, none⟩)) rfl (by kernel_rfl) (by kernel_rfl) (by kernel_rfl) (fun _ _ _ h => h) (Or.inl ⟨by rfl, fun w0 hSw => by go_simp⟩) trivial ?_
                            try simp only [Act.put, List.setIfInBounds_toArray, List.set_cons_zero, List.set_cons_succ]
                            refine wpAnyH_done (by kernel_rfl) ?_ _
                            go_wp2_with fail
                            go_ret3
                            have y1 := (ox1.out.lt (g := Wd.heap.size) rfl).2
                            have y2 := (ox2.out.lt (g := wx1.heap.size) rfl).2
                            have y3 := (ox3.out.lt (g := wx2.heap.size) rfl).2
                            have hD := TD.out.size
                            have tF := ((tx1.out.also tx2.out).also tx3.out).also tz.out
                            have tA := TD.out.also tF
                            refine BRet.mk (rfl) (assemble (lo := Wd.heap.size) (gr := wx1.heap.size) (go := Wd.heap.size) (gb := wx2.heap.size) (BD2.out.keep tF) (BG2.out.keep tF) rfl (OST.out.keep tA) (OHD.out.keep tA) (OAR.out.keep tA) (((ox2.out.keep tx3.out).keep tz.out).mono (by omega)) ((((ox1.out.keep tx2.out).keep tx3.out).keep tz.out).mono (by omega)) ((ox3.out.keep tz.out).mono (by omega)) bz.out HQ2.out (by rw [HML.out.1]; exact HFI.out) HML.out.1 HAD.out.rg hn hn1 (by omega) (by omega) (by omega) (by omega) (by omega) (by omega) (by omega) (by omega) (by omega) (by omega) (by omega) (by omega) (by omega) (by omega) (by omega) (by omega) (by omega) (by omega) (by omega) (by omega) (by omega) (by omega) (HAD.out.fr.also tA)) (HAD.out.f.keep tA) (HAD.out.t.keep tA) (fun g hg => by have := (HAD.out.f.lt hg).2; omega) (fun g hg => by have := (HAD.out.t.lt hg).2; omega)
                        · skip
                          refine step_make rfl (.tmp 186) rfl n rfl (by omega) hn ?_
                          intro wx2 ox2 tx2
                          replace ox2 := hide ox2
                          replace tx2 := hide tx2
                          refine hK.out _ _ trivial (fun _ => ?_)
                          clear hK K
                          try simp only [Act.put, List.setIfInBounds_toArray, List.set_cons_zero, List.set_cons_succ]
                          refine wpAnyH_ready (rs := [2]) (by kernel_rfl) (by simp) ?_
                          refine AllReadyH.cons (o := { dst := some 183, op := Op.makeSlice 24 (Operand.tmp 182) (Operand.tmp 182), type := 24, pos := "zz_law_s0093b.go:58", after := #[{ on := 1, ground := Ground.data }, { on := 1, ground := Ground.data }], guard := none }) rfl (fun K hK => ?_) (AllReadyH.nil)
                          · skip
                            refine step_make rfl (.tmp 182) rfl n rfl (by omega) hn ?_
                            intro wx3 ox3 tx3
                            replace ox3 := hide ox3
                            replace tx3 := hide tx3
                            refine hK.out _ _ trivial (fun _ => ?_)
                            clear hK K
                            try simp only [Act.put, List.setIfInBounds_toArray, List.set_cons_zero, List.set_cons_succ]
                            refine wpAnyH_take (i := 7) (oi := { dst := some 188, op := Op.build 57 #[(0, Operand.tmp 181), (1, Operand.tmp 183), (2, Operand.tmp 185), (3, Operand.tmp 187)], type := 57, pos := "zz_law_s0093b.go:58", after := #[{ on := 0, ground := Ground.data }, { on := 2, ground := Ground.data }, { on := 4, ground := Ground.data }, { on := 6, ground := Ground.data }], guard := none }) (v := .agg #[.pointer (some ⟨gd, 0, none⟩), .slice (some ⟨wx2.heap.size, 0, none⟩) (2 * n) (2 * n), .slice (some ⟨Wd.heap.size, 0, none⟩) (2 * n) (2 * n), .slice (some ⟨wx1.heap.size, 0, none⟩) (2 * n) (2 * n), .int .i32 0, .slice none 0 0, .slice none 0 0, .slice none 0 0, .slice none 0 0, .slice none 0 0, .slice none 0 0, .slice none 0 0, .int .i64 0]) rfl (by kernel_rfl) (by kernel_rfl) (by kernel_rfl) (fun _ _ _ h => h) (Or.inl ⟨by rfl, fun w0 hSw => by go_simp⟩) trivial ?_
                            try simp only [Act.put, List.setIfInBounds_toArray, List.set_cons_zero, List.set_cons_succ]
                            refine wpAnyH_ready (rs := [8]) (by kernel_rfl) (by simp) ?_
                            refine AllReadyH.cons (o := { dst := some 189, op := Op.box 57 (Operand.tmp 188), type := 23, pos := "zz_law_s0093b.go:58", after := #[{ on := 7, ground := Ground.data }], guard := none }) rfl (fun K hK => ?_) AllReadyH.nil
                            go_simp
                            refine hK.out _ _ trivial (fun _ => ?_)
                            clear hK K
                            try simp only [Act.put, List.setIfInBounds_toArray, List.set_cons_zero, List.set_cons_succ]
                            have bz := hide (Blk.new wx3 #[.pointer (some ⟨gd, 0, none⟩), .slice (some ⟨wx2.heap.size, 0, none⟩) (2 * n) (2 * n), .slice (some ⟨Wd.heap.size, 0, none⟩) (2 * n) (2 * n), .slice (some ⟨wx1.heap.size, 0, none⟩) (2 * n) (2 * n), .int .i32 0, .slice none 0 0, .slice none 0 0, .slice none 0 0, .slice none 0 0, .slice none 0 0, .slice none 0 0, .slice none 0 0, .int .i64 0] 57)
                            have tz := hide ((Tch.refl Non wx3).alloc (.cells #[.pointer (some ⟨gd, 0, none⟩), .slice (some ⟨wx2.heap.size, 0, none⟩) (2 * n) (2 * n), .slice (some ⟨Wd.heap.size, 0, none⟩) (2 * n) (2 * n), .slice (some ⟨wx1.heap.size, 0, none⟩) (2 * n) (2 * n), .int .i32 0, .slice none 0 0, .slice none 0 0, .slice none 0 0, .slice none 0 0, .slice none 0 0, .slice none 0 0, .slice none 0 0, .int .i64 0] 57))
                            generalize wx3.alloc (.cells #[.pointer (some ⟨gd, 0, none⟩), .slice (some ⟨wx2.heap.size, 0, none⟩) (2 * n) (2 * n), .slice (some ⟨Wd.heap.size, 0, none⟩) (2 * n) (2 * n), .slice (some ⟨wx1.heap.size, 0, none⟩) (2 * n) (2 * n), .int .i32 0, .slice none 0 0, .slice none 0 0, .slice none 0 0, .slice none 0 0, .slice none 0 0, .slice none 0 0, .slice none 0 0, .int .i64 0] 57) = wz at *
                            refine wpAnyH_take (i := 9) (oi := { dst := some 27, op := Op.assign (Operand.tmp 189), type := 23, pos := "zz_law_s0093b.go:58", after := #[{ on := 8, ground := Ground.data }, { on := 0, ground := Ground.phase }, { on := 1, ground := Ground.phase }, { on := 2, ground := Ground.phase }, { on := 3, ground := Ground.phase }, { on := 4, ground := Ground.phase }, { on := 5, ground := Ground.phase }, { on := 6, ground := Ground.phase }, { on := 7, ground := Ground.phase }, { on := 8, ground := Ground.phase }], guard := none }) (v := .pointer (some ⟨wx3.heap.size, 0, none⟩)) rfl (by kernel_rfl) (by kernel_rfl) (by kernel_rfl) (fun _ _ _ h => h) (Or.inl ⟨by rfl, fun w0 hSw => by go_simp⟩) trivial ?_
                            try simp only [Act.put, List.setIfInBounds_toArray, List.set_cons_zero, List.set_cons_succ]
                            refine wpAnyH_done (by kernel_rfl) ?_ _
                            go_wp2_with fail
                            go_ret3
                            have y1 := (ox1.out.lt (g := Wd.heap.size) rfl).2
                            have y2 := (ox2.out.lt (g := wx1.heap.size) rfl).2
                            have y3 := (ox3.out.lt (g := wx2.heap.size) rfl).2
                            have hD := TD.out.size
                            have tF := ((tx1.out.also tx2.out).also tx3.out).also tz.out
                            have tA := TD.out.also tF
                            refine BRet.mk (rfl) (assemble (lo := Wd.heap.size) (gr := wx2.heap.size) (go := Wd.heap.size) (gb := wx1.heap.size) (BD2.out.keep tF) (BG2.out.keep tF) rfl (OST.out.keep tA) (OHD.out.keep tA) (OAR.out.keep tA) ((ox3.out.keep tz.out).mono (by omega)) ((((ox1.out.keep tx2.out).keep tx3.out).keep tz.out).mono (by omega)) (((ox2.out.keep tx3.out).keep tz.out).mono (by omega)) bz.out HQ2.out (by rw [HML.out.1]; exact HFI.out) HML.out.1 HAD.out.rg hn hn1 (by omega) (by omega) (by omega) (by omega) (by omega) (by omega) (by omega) (by omega) (by omega) (by omega) (by omega) (by omega) (by omega) (by omega) (by omega) (by omega) (by omega) (by omega) (by omega) (by omega) (by omega) (by omega) (HAD.out.fr.also tA)) (HAD.out.f.keep tA) (HAD.out.t.keep tA) (fun g hg => by have := (HAD.out.f.lt hg).2; omega) (fun g hg => by have := (HAD.out.t.lt hg).2; omega)
                      · skip
                        refine step_make rfl (.tmp 186) rfl n rfl (by omega) hn ?_
                        intro wx1 ox1 tx1
                        replace ox1 := hide ox1
                        replace tx1 := hide tx1
                        refine hK.out _ _ trivial (fun _ => ?_)
                        clear hK K
                        try simp only [Act.put, List.setIfInBounds_toArray, List.set_cons_zero, List.set_cons_succ]
                        refine wpAnyH_ready (rs := [2, 4]) (by kernel_rfl) (by simp) ?_
                        refine AllReadyH.cons (o := { dst := some 183, op := Op.makeSlice 24 (Operand.tmp 182) (Operand.tmp 182), type := 24, pos := "zz_law_s0093b.go:58", after := #[{ on := 1, ground := Ground.data }, { on := 1, ground := Ground.data }], guard := none }) rfl (fun K hK => ?_) (AllReadyH.cons (o := { dst := some 185, op := Op.makeSlice 24 (Operand.tmp 184) (Operand.tmp 184), type := 24, pos := "zz_law_s0093b.go:58", after := #[{ on := 3, ground := Ground.data }, { on := 3, ground := Ground.data }], guard := none }) rfl (fun K hK => ?_) (AllReadyH.nil))
                        · skip
                          refine step_make rfl (.tmp 182) rfl n rfl (by omega) hn ?_
                          intro wx2 ox2 tx2
                          replace ox2 := hide ox2
                          replace tx2 := hide tx2
                          refine hK.out _ _ trivial (fun _ => ?_)
                          clear hK K
                          try simp only [Act.put, List.setIfInBounds_toArray, List.set_cons_zero, List.set_cons_succ]
                          refine wpAnyH_ready (rs := [4]) (by kernel_rfl) (by simp) ?_
                          refine AllReadyH.cons (o := { dst := some 185, op := Op.makeSlice 24 (Operand.tmp 184) (Operand.tmp 184), type := 24, pos := "zz_law_s0093b.go:58", after := #[{ on := 3, ground := Ground.data }, { on := 3, ground := Ground.data }], guard := none }) rfl (fun K hK => ?_) (AllReadyH.nil)
                          · skip
                            refine step_make rfl (.tmp 184) rfl n rfl (by omega) hn ?_
                            intro wx3 ox3 tx3
                            replace ox3 := hide ox3
                            replace tx3 := hide tx3
                            refine hK.out _ _ trivial (fun _ => ?_)
                            clear hK K
                            try simp only [Act.put, List.setIfInBounds_toArray, List.set_cons_zero, List.set_cons_succ]
                            refine wpAnyH_take (i := 7) (oi := { dst := some 188, op := Op.build 57 #[(0, Operand.tmp 181), (1, Operand.tmp 183), (2, Operand.tmp 185), (3, Operand.tmp 187)], type := 57, pos := "zz_law_s0093b.go:58", after := #[{ on := 0, ground := Ground.data }, { on := 2, ground := Ground.data }, { on := 4, ground := Ground.data }, { on := 6, ground := Ground.data }], guard := none }) (v := .agg #[.pointer (some ⟨gd, 0, none⟩), .slice (some ⟨wx1.heap.size, 0, none⟩) (2 * n) (2 * n), .slice (some ⟨wx2.heap.size, 0, none⟩) (2 * n) (2 * n), .slice (some ⟨Wd.heap.size, 0, none⟩) (2 * n) (2 * n), .int .i32 0, .slice none 0 0, .slice none 0 0, .slice none 0 0, .slice none 0 0, .slice none 0 0, .slice none 0 0, .slice none 0 0, .int .i64 0]) rfl (by kernel_rfl) (by kernel_rfl) (by kernel_rfl) (fun _ _ _ h => h) (Or.inl ⟨by rfl, fun w0 hSw => by go_simp⟩) trivial ?_
                            try simp only [Act.put, List.setIfInBounds_toArray, List.set_cons_zero, List.set_cons_succ]
                            refine wpAnyH_ready (rs := [8]) (by kernel_rfl) (by simp) ?_
                            refine AllReadyH.cons (o := { dst := some 189, op := Op.box 57 (Operand.tmp 188), type := 23, pos := "zz_law_s0093b.go:58", after := #[{ on := 7, ground := Ground.data }], guard := none }) rfl (fun K hK => ?_) AllReadyH.nil
                            go_simp
                            refine hK.out _ _ trivial (fun _ => ?_)
                            clear hK K
                            try simp only [Act.put, List.setIfInBounds_toArray, List.set_cons_zero, List.set_cons_succ]
                            have bz := hide (Blk.new wx3 #[.pointer (some ⟨gd, 0, none⟩), .slice (some ⟨wx1.heap.size, 0, none⟩) (2 * n) (2 * n), .slice (some ⟨wx2.heap.size, 0, none⟩) (2 * n) (2 * n), .slice (some ⟨Wd.heap.size, 0, none⟩) (2 * n) (2 * n), .int .i32 0, .slice none 0 0, .slice none 0 0, .slice none 0 0, .slice none 0 0, .slice none 0 0, .slice none 0 0, .slice none 0 0, .int .i64 0] 57)
                            have tz := hide ((Tch.refl Non wx3).alloc (.cells #[.pointer (some ⟨gd, 0, none⟩), .slice (some ⟨wx1.heap.size, 0, none⟩) (2 * n) (2 * n), .slice (some ⟨wx2.heap.size, 0, none⟩) (2 * n) (2 * n), .slice (some ⟨Wd.heap.size, 0, none⟩) (2 * n) (2 * n), .int .i32 0, .slice none 0 0, .slice none 0 0, .slice none 0 0, .slice none 0 0, .slice none 0 0, .slice none 0 0, .slice none 0 0, .int .i64 0] 57))
                            generalize wx3.alloc (.cells #[.pointer (some ⟨gd, 0, none⟩), .slice (some ⟨wx1.heap.size, 0, none⟩) (2 * n) (2 * n), .slice (some ⟨wx2.heap.size, 0, none⟩) (2 * n) (2 * n), .slice (some ⟨Wd.heap.size, 0, none⟩) (2 * n) (2 * n), .int .i32 0, .slice none 0 0, .slice none 0 0, .slice none 0 0, .slice none 0 0, .slice none 0 0, .slice none 0 0, .slice none 0 0, .int .i64 0] 57) = wz at *
                            refine wpAnyH_take (i := 9) (oi := { dst := some 27, op := Op.assign (Operand.tmp 189), type := 23, pos := "zz_law_s0093b.go:58", after := #[{ on := 8, ground := Ground.data }, { on := 0, ground := Ground.phase }, { on := 1, ground := Ground.phase }, { on := 2, ground := Ground.phase }, { on := 3, ground := Ground.phase }, { on := 4, ground := Ground.phase }, { on := 5, ground := Ground.phase }, { on := 6, ground := Ground.phase }, { on := 7, ground := Ground.phase }, { on := 8, ground := Ground.phase }], guard := none }) (v := .pointer (some ⟨wx3.heap.size, 0, none⟩)) rfl (by kernel_rfl) (by kernel_rfl) (by kernel_rfl) (fun _ _ _ h => h) (Or.inl ⟨by rfl, fun w0 hSw => by go_simp⟩) trivial ?_
                            try simp only [Act.put, List.setIfInBounds_toArray, List.set_cons_zero, List.set_cons_succ]
                            refine wpAnyH_done (by kernel_rfl) ?_ _
                            go_wp2_with fail
                            go_ret3
                            have y1 := (ox1.out.lt (g := Wd.heap.size) rfl).2
                            have y2 := (ox2.out.lt (g := wx1.heap.size) rfl).2
                            have y3 := (ox3.out.lt (g := wx2.heap.size) rfl).2
                            have hD := TD.out.size
                            have tF := ((tx1.out.also tx2.out).also tx3.out).also tz.out
                            have tA := TD.out.also tF
                            refine BRet.mk (rfl) (assemble (lo := Wd.heap.size) (gr := wx1.heap.size) (go := wx2.heap.size) (gb := Wd.heap.size) (BD2.out.keep tF) (BG2.out.keep tF) rfl (OST.out.keep tA) (OHD.out.keep tA) (OAR.out.keep tA) (((ox2.out.keep tx3.out).keep tz.out).mono (by omega)) ((ox3.out.keep tz.out).mono (by omega)) ((((ox1.out.keep tx2.out).keep tx3.out).keep tz.out).mono (by omega)) bz.out HQ2.out (by rw [HML.out.1]; exact HFI.out) HML.out.1 HAD.out.rg hn hn1 (by omega) (by omega) (by omega) (by omega) (by omega) (by omega) (by omega) (by omega) (by omega) (by omega) (by omega) (by omega) (by omega) (by omega) (by omega) (by omega) (by omega) (by omega) (by omega) (by omega) (by omega) (by omega) (HAD.out.fr.also tA)) (HAD.out.f.keep tA) (HAD.out.t.keep tA) (fun g hg => by have := (HAD.out.f.lt hg).2; omega) (fun g hg => by have := (HAD.out.t.lt hg).2; omega)
                        · skip
                          refine step_make rfl (.tmp 184) rfl n rfl (by omega) hn ?_
                          intro wx2 ox2 tx2
                          replace ox2 := hide ox2
                          replace tx2 := hide tx2
                          refine hK.out _ _ trivial (fun _ => ?_)
                          clear hK K
                          try simp only [Act.put, List.setIfInBounds_toArray, List.set_cons_zero, List.set_cons_succ]
                          refine wpAnyH_ready (rs := [2]) (by kernel_rfl) (by simp) ?_
                          refine AllReadyH.cons (o := { dst := some 183, op := Op.makeSlice 24 (Operand.tmp 182) (Operand.tmp 182), type := 24, pos := "zz_law_s0093b.go:58", after := #[{ on := 1, ground := Ground.data }, { on := 1, ground := Ground.data }], guard := none }) rfl (fun K hK => ?_) (AllReadyH.nil)
                          · skip
                            refine step_make rfl (.tmp 182) rfl n rfl (by omega) hn ?_
                            intro wx3 ox3 tx3
                            replace ox3 := hide ox3
                            replace tx3 := hide tx3
                            refine hK.out _ _ trivial (fun _ => ?_)
                            clear hK K
                            try simp only [Act.put, List.setIfInBounds_toArray, List.set_cons_zero, List.set_cons_succ]
                            refine wpAnyH_take (i := 7) (oi := { dst := some 188, op := Op.build 57 #[(0, Operand.tmp 181), (1, Operand.tmp 183), (2, Operand.tmp 185), (3, Operand.tmp 187)], type := 57, pos := "zz_law_s0093b.go:58", after := #[{ on := 0, ground := Ground.data }, { on := 2, ground := Ground.data }, { on := 4, ground := Ground.data }, { on := 6, ground := Ground.data }], guard := none }) (v := .agg #[.pointer (some ⟨gd, 0, none⟩), .slice (some ⟨wx2.heap.size, 0, none⟩) (2 * n) (2 * n), .slice (some ⟨wx1.heap.size, 0, none⟩) (2 * n) (2 * n), .slice (some ⟨Wd.heap.size, 0, none⟩) (2 * n) (2 * n), .int .i32 0, .slice none 0 0, .slice none 0 0, .slice none 0 0, .slice none 0 0, .slice none 0 0, .slice none 0 0, .slice none 0 0, .int .i64 0]) rfl (by kernel_rfl) (by kernel_rfl) (by kernel_rfl) (fun _ _ _ h => h) (Or.inl ⟨by rfl, fun w0 hSw => by go_simp⟩) trivial ?_
                            try simp only [Act.put, List.setIfInBounds_toArray, List.set_cons_zero, List.set_cons_succ]
                            refine wpAnyH_ready (rs := [8]) (by kernel_rfl) (by simp) ?_
                            refine AllReadyH.cons (o := { dst := some 189, op := Op.box 57 (Operand.tmp 188), type := 23, pos := "zz_law_s0093b.go:58", after := #[{ on := 7, ground := Ground.data }], guard := none }) rfl (fun K hK => ?_) AllReadyH.nil
                            go_simp
                            refine hK.out _ _ trivial (fun _ => ?_)
                            clear hK K
                            try simp only [Act.put, List.setIfInBounds_toArray, List.set_cons_zero, List.set_cons_succ]
                            have bz := hide (Blk.new wx3 #[.pointer (some ⟨gd, 0, none⟩), .slice (some ⟨wx2.heap.size, 0, none⟩) (2 * n) (2 * n), .slice (some ⟨wx1.heap.size, 0, none⟩) (2 * n) (2 * n), .slice (some ⟨Wd.heap.size, 0, none⟩) (2 * n) (2 * n), .int .i32 0, .slice none 0 0, .slice none 0 0, .slice none 0 0, .slice none 0 0, .slice none 0 0, .slice none 0 0, .slice none 0 0, .int .i64 0] 57)
                            have tz := hide ((Tch.refl Non wx3).alloc (.cells #[.pointer (some ⟨gd, 0, none⟩), .slice (some ⟨wx2.heap.size, 0, none⟩) (2 * n) (2 * n), .slice (some ⟨wx1.heap.size, 0, none⟩) (2 * n) (2 * n), .slice (some ⟨Wd.heap.size, 0, none⟩) (2 * n) (2 * n), .int .i32 0, .slice none 0 0, .slice none 0 0, .slice none 0 0, .slice none 0 0, .slice none 0 0, .slice none 0 0, .slice none 0 0, .int .i64 0] 57))
                            generalize wx3.alloc (.cells #[.pointer (some ⟨gd, 0, none⟩), .slice (some ⟨wx2.heap.size, 0, none⟩) (2 * n) (2 * n), .slice (some ⟨wx1.heap.size, 0, none⟩) (2 * n) (2 * n), .slice (some ⟨Wd.heap.size, 0, none⟩) (2 * n) (2 * n), .int .i32 0, .slice none 0 0, .slice none 0 0, .slice none 0 0, .slice none 0 0, .slice none 0 0, .slice none 0 0, .slice none 0 0, .int .i64 0] 57) = wz at *
                            refine wpAnyH_take (i := 9) (oi := { dst := some 27, op := Op.assign (Operand.tmp 189), type := 23, pos := "zz_law_s0093b.go:58", after := #[{ on := 8, ground := Ground.data }, { on := 0, ground := Ground.phase }, { on := 1, ground := Ground.phase }, { on := 2, ground := Ground.phase }, { on := 3, ground := Ground.phase }, { on := 4, ground := Ground.phase }, { on := 5, ground := Ground.phase }, { on := 6, ground := Ground.phase }, { on := 7, ground := Ground.phase }, { on := 8, ground := Ground.phase }], guard := none }) (v := .pointer (some ⟨wx3.heap.size, 0, none⟩)) rfl (by kernel_rfl) (by kernel_rfl) (by kernel_rfl) (fun _ _ _ h => h) (Or.inl ⟨by rfl, fun w0 hSw => by go_simp⟩) trivial ?_
                            try simp only [Act.put, List.setIfInBounds_toArray, List.set_cons_zero, List.set_cons_succ]
                            refine wpAnyH_done (by kernel_rfl) ?_ _
                            go_wp2_with fail
                            go_ret3
                            have y1 := (ox1.out.lt (g := Wd.heap.size) rfl).2
                            have y2 := (ox2.out.lt (g := wx1.heap.size) rfl).2
                            have y3 := (ox3.out.lt (g := wx2.heap.size) rfl).2
                            have hD := TD.out.size
                            have tF := ((tx1.out.also tx2.out).also tx3.out).also tz.out
                            have tA := TD.out.also tF
                            refine BRet.mk (rfl) (assemble (lo := Wd.heap.size) (gr := wx2.heap.size) (go := wx1.heap.size) (gb := Wd.heap.size) (BD2.out.keep tF) (BG2.out.keep tF) rfl (OST.out.keep tA) (OHD.out.keep tA) (OAR.out.keep tA) ((ox3.out.keep tz.out).mono (by omega)) (((ox2.out.keep tx3.out).keep tz.out).mono (by omega)) ((((ox1.out.keep tx2.out).keep tx3.out).keep tz.out).mono (by omega)) bz.out HQ2.out (by rw [HML.out.1]; exact HFI.out) HML.out.1 HAD.out.rg hn hn1 (by omega) (by omega) (by omega) (by omega) (by omega) (by omega) (by omega) (by omega) (by omega) (by omega) (by omega) (by omega) (by omega) (by omega) (by omega) (by omega) (by omega) (by omega) (by omega) (by omega) (by omega) (by omega) (HAD.out.fr.also tA)) (HAD.out.f.keep tA) (HAD.out.t.keep tA) (fun g hg => by have := (HAD.out.f.lt hg).2; omega) (fun g hg => by have := (HAD.out.t.lt hg).2; omega)
end Go.Proofs.YbulkaxcDoor.Build
