/-
  (*sorter).step, by a contract.
-/
import Derived.Test.YbulkaxcStep
namespace Go.Proofs.Ybulkaxc.Step
open Go.RowKit Go.Proofs.Ybulkaxc.Mem Go.Proofs.Ybulkaxc.Small Go.Proofs.Ybulkaxc.Clone
set_option linter.unusedVariables false

/-- One target x is met: its count goes down by one; at nought it is handed on. -/
def hit (txn : Int) (st : List Int × List Int × List Int) (x : Int) : List Int × List Int × List Int :=
  (st.1.set x.toNat (wrap32 (st.1.getD x.toNat 0 - 1)),
   if wrap32 (st.1.getD x.toNat 0 - 1) = 0 ∧ txn ≤ x then st.2.1 ++ [x] else st.2.1,
   if wrap32 (st.1.getD x.toNat 0 - 1) = 0 ∧ ¬ txn ≤ x then st.2.2 ++ [x] else st.2.2)

theorem hit_len (txn : Int) (st : List Int × List Int × List Int) (x : Int) : (hit txn st x).1.length = st.1.length ∧ (hit txn st x).2.1.length ≤ st.2.1.length + 1 ∧ (hit txn st x).2.2.length ≤ st.2.2.length + 1 := by
  unfold hit
  refine ⟨by simp, ?_, ?_⟩
  · dsimp only; split <;> simp
  · dsimp only; split <;> simp
theorem hits_len (txn : Int) (xs : List Int) : ∀ (st : List Int × List Int × List Int), (xs.foldl (hit txn) st).1.length = st.1.length ∧ (xs.foldl (hit txn) st).2.1.length ≤ st.2.1.length + xs.length ∧ (xs.foldl (hit txn) st).2.2.length ≤ st.2.2.length + xs.length := by
  induction xs with
  | nil => intro st; simp
  | cons x xs ih =>
    intro st
    have h1 := ih (hit txn st x)
    have h2 := hit_len txn st x
    simp only [List.foldl_cons, List.length_cons]
    omega
theorem hits_snoc (txn : Int) (xs : List Int) (st : List Int × List Int × List Int) {k : Nat} {x : Int} (h : xs[k]? = some x) : (xs.take (k + 1)).foldl (hit txn) st = hit txn ((xs.take k).foldl (hit txn) st) x := by
  have : xs.take (k + 1) = xs.take k ++ [x] := by
    rw [List.take_add_one, h]; rfl
  rw [this, List.foldl_append]; rfl

theorem hit_zero (txn : Int) (st : List Int × List Int × List Int) (x : Nat) {y : Int} (hy : st.1[x]? = some y) (hz : wrap32 (y - 1) = 0) :
    hit txn st x = (st.1.set x (wrap32 (y - 1)), if txn ≤ x then st.2.1 ++ [(x : Int)] else st.2.1, if txn ≤ x then st.2.2 else st.2.2 ++ [(x : Int)]) := by
  have e : st.1.getD x 0 = y := by rw [List.getD_eq_getElem?_getD, hy]; rfl
  unfold hit
  simp only [Int.toNat_natCast, e, hz, true_and]
  by_cases h : txn ≤ x <;> simp [h]
theorem hit_non (txn : Int) (st : List Int × List Int × List Int) (x : Nat) {y : Int} (hy : st.1[x]? = some y) (hz : ¬ wrap32 (y - 1) = 0) :
    hit txn st x = (st.1.set x (wrap32 (y - 1)), st.2.1, st.2.2) := by
  have e : st.1.getD x 0 = y := by rw [List.getD_eq_getElem?_getD, hy]; rfl
  unfold hit
  simp only [Int.toNat_natCast, e, hz, false_and, if_false]

/-- The targets of a step: the heads; behind them the next layer's place. -/
def tgts (seg : List Int) (p txn L : Int) : List Int := seg ++ if p < txn ∧ p % L < L - 1 then [p + 1] else []
theorem tgts_no (seg : List Int) (p txn L : Int) (h : ¬ (p < txn ∧ p % L < L - 1)) : tgts seg p txn L = seg := by
  unfold tgts; rw [if_neg h, List.append_nil]
theorem tgts_yes (seg : List Int) (p txn L : Int) (h : p < txn) (h' : p % L < L - 1) : tgts seg p txn L = seg ++ [p + 1] := by
  unfold tgts; rw [if_pos ⟨h, h'⟩]
theorem tgts_fold (seg : List Int) (p txn L : Int) (h : p < txn) (h' : p % L < L - 1) (st : List Int × List Int × List Int) : (tgts seg p txn L).foldl (hit txn) st = hit txn (seg.foldl (hit txn) st) (p + 1) := by
  rw [tgts_yes _ _ _ _ h h', List.foldl_append]; rfl

theorem next_lt (p n : Int) (L : Nat) (h0 : 0 ≤ p) (hL : 1 ≤ L) (h : p < n * (L : Int)) (h' : p % (L : Int) < (L : Int) - 1) : p + 1 < n * (L : Int) := by
  have e := Int.mul_ediv_add_emod p L
  have hq : p / (L : Int) < n := Int.ediv_lt_of_lt_mul (by omega) h
  have h1 : (L : Int) * (p / (L : Int) + 1) ≤ (L : Int) * n := Int.mul_le_mul_of_nonneg_left (by omega) (by omega)
  rw [Int.mul_add, Int.mul_one] at h1
  rw [Int.mul_comm n]
  omega

theorem bls_fr {w : World} {gs gl : Nat} {vi vt vp vl vt' vp' vl' : Value} (ht : Fr w vt vt') (hp : Fr w vp vp') (hl : Fr w vl vl') : ∀ x, x ∈ bls gs gl vi vt' vp' vl' → x ∈ bls gs gl vi vt vp vl ∨ w.heap.size ≤ x := by
  intro x hx
  unfold bls at hx ⊢
  simp only [List.mem_cons, List.mem_append, Option.mem_toList] at hx ⊢
  rcases hx with h | h | h | h | h | h
  · exact .inl (.inl h)
  · exact .inl (.inr (.inl h))
  · exact .inl (.inr (.inr (.inl h)))
  · rcases ht x h with h | h
    · exact .inl (.inr (.inr (.inr (.inl h))))
    · exact .inr h
  · rcases hp x h with h | h
    · exact .inl (.inr (.inr (.inr (.inr (.inl h)))))
    · exact .inr h
  · rcases hl x h with h | h
    · exact .inl (.inr (.inr (.inr (.inr (.inr h)))))
    · exact .inr h

/-- The taken slice has been appended to and stored back. -/
theorem SW.taken {w w1 : World} {B gs gd gl : Nat} {vi vt vp vl vt' : Value} {ind tk pts lg tk' : List Int} (h : SW w B gs gd gl vi vt vp vl ind tk pts lg) {o : Obj}
    (t : Tch vt.ownBlock.toList (w.alloc o) w1) (ho : Own w1 B vt' tk') (f : Fr (w.alloc o) vt vt') :
    SW (w1.setCell ⟨gs, 3, none⟩ vt') B gs gd gl vi vt' vp vl ind tk' pts lg ∧ Tch (bls gs gl vi vt vp vl) w (w1.setCell ⟨gs, 3, none⟩ vt') ∧ Fr w vt vt' := by
  have hs := h.s0.lt
  have hl := h.l0.lt
  have f' := f.of_alloc
  have o1 := h.ft.1.fr hs f'
  have o2 := h.ft.2.fr hl f'
  refine ⟨⟨((h.s0.alloc _).apart t h.ft.1).set 3 _, ((h.l0.alloc _).apart t h.ft.2).other h.gg.symm _, ((h.oi.alloc _).apart t h.it).setOff _ h.fi.1, ho.setOff _ o1, ((h.op.alloc _).apart t h.tp.symm).setOff _ h.fp.1, ((h.ol.alloc _).apart t h.tl.symm).setOff _ h.fl.1, ?_, h.gg, h.fi, ⟨o1, o2⟩, h.fp, h.fl, (h.it.symm.fr h.oi f').symm, h.ip, h.il, h.tp.fr h.op f', h.tl.fr h.ol f', h.pl⟩, ?_, f'⟩
  · have := t.size
    have := h.hB
    simp [World.setCell] at *
    omega
  · exact Tch.setCell (((Tch.refl _ w).alloc _).trans t (fun x hx => .inl (by unfold bls; exact List.mem_cons_of_mem _ (List.mem_cons_of_mem _ (List.mem_append_right _ (List.mem_append_left _ hx)))))) (.inl (by simp [bls])) _

/-- An entry of the counts has been written. -/
theorem SW.count {w : World} {B gs gd gl gi ni ci : Nat} {vt vp vl : Value} {ind tk pts lg : List Int} (h : SW w B gs gd gl (.slice (some ⟨gi, 0, none⟩) ni ci) vt vp vl ind tk pts lg) (k : Nat) (y : Int) :
    SW (w.setCell ⟨gi, k, none⟩ (.int .i32 y)) B gs gd gl (.slice (some ⟨gi, 0, none⟩) ni ci) vt vp vl (ind.set k y) tk pts lg ∧ Tch (bls gs gl (.slice (some ⟨gi, 0, none⟩) ni ci) vt vp vl) w (w.setCell ⟨gi, k, none⟩ (.int .i32 y)) := by
  have a1 : gi ≠ gs := fun e => h.fi.1 (by simp [Value.ownBlock, e])
  have a2 : gi ≠ gl := fun e => h.fi.2 (by simp [Value.ownBlock, e])
  refine ⟨⟨h.s0.other (Ne.symm a1) _, h.l0.other (Ne.symm a2) _, h.oi.set k y, h.ot.setOff _ (fun e => h.it gi rfl e), h.op.setOff _ (fun e => h.ip gi rfl e), h.ol.setOff _ (fun e => h.il gi rfl e), ?_, h.gg, h.fi, h.ft, h.fp, h.fl, h.it, h.ip, h.il, h.tp, h.tl, h.pl⟩, (Tch.refl _ _).setCell (.inl (by simp [bls, Value.ownBlock])) _⟩
  have := h.hB
  simpa [World.setCell] using this

/-- What step reads of the digraph. -/
structure DF (w : World) (gd ga gh gst m T cs : Nat) (n : Int) (L : Nat) (p i j : Int) : Prop where
  dg : DG w gd n L
  ha : w.cell? ⟨gd, 4, none⟩ = some (.slice (some ⟨ga, 0, none⟩) m m)
  hh : w.cell? ⟨gd, 5, none⟩ = some (.slice (some ⟨gh, 0, none⟩) m m)
  hs : w.cell? ⟨gd, 6, none⟩ = some (.slice (some ⟨gst, 0, none⟩) (T + 1) cs)
  hi : w.cell? ⟨gst, p.toNat, none⟩ = some (.int .i32 i)
  hj : w.cell? ⟨gst, p.toNat + 1, none⟩ = some (.int .i32 j)
theorem DF.touch {w w' : World} {gd ga gh gst m T cs : Nat} {n : Int} {L : Nat} {p i j : Int} (h : DF w gd ga gh gst m T cs n L p i j) {S : List Nat} (t : Tch S w w') (h1 : gd ∉ S) (h2 : gst ∉ S) : DF w' gd ga gh gst m T cs n L p i j :=
  ⟨h.dg.touch t h1, t.cell h.ha h1, t.cell h.hh h1, t.cell h.hs h1, t.cell h.hi h2, t.cell h.hj h2⟩

/-- The relation of step's loop: k of the heads have been met. -/
def RelS (B gs gd gl : Nat) (vi vt vp vl : Value) (txn : Int) (st : List Int × List Int × List Int) (tk seg : List Int) (S : List Nat) (w : World) (k : Nat) (wr : World) : Prop :=
  ∃ vp' vl', SW wr B gs gd gl vi vt vp' vl' ((seg.take k).foldl (hit txn) st).1 tk ((seg.take k).foldl (hit txn) st).2.1 ((seg.take k).foldl (hit txn) st).2.2 ∧ Tch S w wr ∧ Fr w vp vp' ∧ Fr w vl vl'

set_option maxRecDepth 100000 in
set_option maxHeartbeats 1000000 in
theorem step_any (B gs gd gl : Nat) (vi vt vp vl : Value) (ind tk pts lg hs seg : List Int) (n p i j : Int) (L T m ga gh gst cs : Nat) (w : World) (h : SW w B gs gd gl vi vt vp vl ind tk pts lg) (hd : DF w gd ga gh gst m T cs n L p i j)
    (hL1 : 1 ≤ L) (hL : L ≤ 100) (h1 : 0 ≤ n * (L : Int)) (h2 : n * (L : Int) ≤ 100000) (hT : ind.length = T) (hT1 : T ≤ 100000) (p0 : 0 ≤ p) (pT : p < T) (hnT : n * (L : Int) ≤ T) (i0 : 0 ≤ i) (ij : i ≤ j) (jm : j ≤ m) (hm : m ≤ 10000)
    (hr : Own w B (.slice (some ⟨gh, 0, none⟩) m m) hs) (hseg : seg = (hs.drop i.toNat).take (j - i).toNat) (hx : ∀ x ∈ hs, 0 ≤ x ∧ x < T)
    (b1 : gd ∉ bls gs gl vi vt vp vl) (b2 : gst ∉ bls gs gl vi vt vp vl) (b3 : gh ∉ bls gs gl vi vt vp vl) (l1 : tk.length ≤ 10000) (l2 : pts.length ≤ 10000) (l3 : lg.length ≤ 10000) :
    Calls Yba.prog 7 #[.pointer (some ⟨gs, 0, none⟩), .int .i32 p] w fun e w' => e = .returned (.tuple #[]) ∧ ∃ vt' vp' vl',
      SW w' B gs gd gl vi vt' vp' vl' ((tgts seg p (n * (L : Int)) L).foldl (hit (n * (L : Int))) (ind, pts, lg)).1 (tk ++ [p])
        ((tgts seg p (n * (L : Int)) L).foldl (hit (n * (L : Int))) (ind, pts, lg)).2.1 ((tgts seg p (n * (L : Int)) L).foldl (hit (n * (L : Int))) (ind, pts, lg)).2.2 ∧
      Tch (bls gs gl vi vt vp vl) w w' ∧ Fr w vt vt' ∧ Fr w vp vp' ∧ Fr w vl vl' := by
  obtain ⟨i0', hi, hz0, hz1, hz2⟩ := info_parts info21
  obtain ⟨at0, nt, ct, rfl⟩ := h.ot.slice
  obtain ⟨gi, ci, rfl⟩ : ∃ gi ci, vi = .slice (some ⟨gi, 0, none⟩) T ci := by
    rcases h.oi.form with ⟨_, e⟩ | ⟨g, cap, e, _⟩
    · rw [e] at hT; simp at hT; omega
    · rw [hT] at e; exact ⟨g, cap, e⟩
  have hgis : gi ≠ gs := fun e => h.fi.1 (by simp [Value.ownBlock, e])
  obtain ⟨hc0, hc1, hc2, hc3, hc4, hcf⟩ := h.cells
  have hB := h.hB
  have H := hide h
  have HD := hide hd
  have HR := hide hr
  have HX := hide hx
  have HS := hide hseg
  have HT := hide hT
  clear h hd hr hx hseg hT hc0 hc1 hc2 hc4
  go_enter Yba.func7, Yba.ntmps7
  go_wp2_with (at_builtin; go_must (refine wpList_app32 (v := .slice at0 nt ct) _ rfl (.tmp 12) (.tmp 14) 23 rfl i0' Yba.underlying23 hi hz0 hz1 hz2 rfl (by exact H.out.ot.alloc _) rfl (by exact Src.one w p 1) (by simp only [List.length_cons, List.length_nil]; omega) (by simp only [World.size_alloc]; omega) ?_; intro v' w1 hown' hgrow hfr; obtain ⟨al', nl', cl', hv'⟩ := hown'.slice; subst hv'; have hx1 : w1.cell? ⟨gs, 3, none⟩ = some (.slice at0 nt ct) := ((H.out.s0.alloc _).apart hgrow H.out.ft.1).cell 3; have hf1 : w1.frozen? ⟨gs, 3, none⟩ = false := ((H.out.s0.alloc _).apart hgrow H.out.ft.1).frozen 3; have hy1 : w1.cell? ⟨gs, 0, none⟩ = some (.pointer (some ⟨gd, 0, none⟩)) := ((H.out.s0.alloc _).apart hgrow H.out.ft.1).cell 0))
  have R := H.out.taken hgrow hown' hfr
  clear hgrow hown' hfr hx1 hf1 hy1 hc3 hcf
  generalize World.setCell w1 _ _ = w2 at *
  obtain ⟨H2, T2, F2⟩ := R
  have D2 := HD.out.touch T2 b1 b2
  have lt1 : gd < w.heap.size := World.block_lt_of_cell? _ _ HD.out.ha
  have lt3 : gh < w.heap.size := (HR.out.lt (g := gh) rfl).2
  have sub2 := bls_fr (gs := gs) (gl := gl) (vi := .slice (some ⟨gi, 0, none⟩) T ci) (vp := vp) (vl := vl) F2 (Fr.refl _ _) (Fr.refl _ _)
  have c1 : gd ∉ bls gs gl (.slice (some ⟨gi, 0, none⟩) T ci) (.slice al' nl' cl') vp vl := fun hm => by
    rcases sub2 gd hm with h | h
    · exact b1 h
    · omega
  have c3 : gh ∉ bls gs gl (.slice (some ⟨gi, 0, none⟩) T ci) (.slice al' nl' cl') vp vl := fun hm => by
    rcases sub2 gh hm with h | h
    · exact b3 h
    · omega
  have O2 : Own w2 B (.slice (some ⟨gh, 0, none⟩) m m) hs := HR.out.touch T2 (fun g hg => by cases hg; exact b3)
  refine (from_any gd ga gh gst m T 0 0 cs p i j w2 D2.ha D2.hh D2.hs hT1 (by omega) p0 pT D2.hi D2.hj i0 ij jm).mono ?_
  rintro e w3 ⟨va, o, c, rfl, hoi, q, rfl⟩
  have hlen : seg.length = (j - i).toNat := by
    have : hs.length = m := O2.len
    rw [HS.out]; simp; omega
  have hcell : ∀ (k : Nat) (x : Int), seg[k]? = some x → 0 ≤ x ∧ x < T ∧ ∀ wr, Tch (bls gs gl (.slice (some ⟨gi, 0, none⟩) T ci) (.slice al' nl' cl') vp vl) w2 wr → wr.cell? ⟨gh, o + k, none⟩ = some (.int .i32 x) := by
    intro k x hk
    have hkl : k < (j - i).toNat := by rw [← hlen]; exact (List.getElem?_eq_some_iff.1 hk).1
    have ho : o = i.toNat := hoi (by omega)
    have hk2 : hs[i.toNat + k]? = some x := by
      rw [HS.out, List.getElem?_take, if_pos hkl, List.getElem?_drop] at hk
      exact hk
    have hb := HX.out x (List.mem_of_getElem? hk2)
    refine ⟨hb.1, hb.2, fun wr ht => ?_⟩
    obtain ⟨y, hy, hc⟩ := O2.cell (i := i.toNat + k) ((List.getElem?_eq_some_iff.1 hk2).1)
    rw [hk2] at hy; cases hy
    rw [ho]
    exact ht.cell hc c3
  have S0 : RelS B gs gd gl (.slice (some ⟨gi, 0, none⟩) T ci) (.slice al' nl' cl') vp vl (n * (L : Int)) (ind, pts, lg) (tk ++ [p]) seg (bls gs gl (.slice (some ⟨gi, 0, none⟩) T ci) (.slice al' nl' cl') vp vl) w2 0 (w2.drewN q) :=
    ⟨vp, vl, by simpa using H2.drewN q, (Tch.refl _ _).drewN q, Fr.refl _ _, Fr.refl _ _⟩
  have Hc := hide hcell
  have HS0 := hide S0
  have HL := hide hlen
  have HH2 := hide H2
  have HT2 := hide T2
  have HFT := hide F2
  have lt2 : gd < w2.heap.size := Nat.lt_of_lt_of_le lt1 T2.size
  have HSUB := hide sub2
  have HD2 := hide D2
  clear hcell S0 hlen H2 T2 F2 D2 O2 hoi w1 sub2
  generalize hN : (j - i).toNat = N at *
  have hN1 : N ≤ 10000 := by omega
  have HN := hide hN
  clear hN
  go_wp2_with fail
  go_loopw [29] (fun t wr => ∃ k : Nat, k ≤ N ∧ t = .int .i64 k ∧ RelS B gs gd gl (.slice (some ⟨gi, 0, none⟩) T ci) (.slice al' nl' cl') vp vl (n * (L : Int)) (ind, pts, lg) (tk ++ [p]) seg (bls gs gl (.slice (some ⟨gi, 0, none⟩) T ci) (.slice al' nl' cl') vp vl) w2 k wr) (fun t _ => N - (intOf t).toNat)
  case atStart => exact ⟨0, Nat.zero_le _, rfl, HS0.out⟩
  case round =>
    clear HS0
    obtain ⟨k, hk, rfl, vp', vl', hsw, ht, f1, f2⟩ := hrel
    by_cases hlt : k < N
    · obtain ⟨x, hx⟩ : ∃ x, seg[k]? = some x := ⟨seg[k]'(by rw [HL.out]; exact hlt), List.getElem?_eq_getElem _⟩
      obtain ⟨x0, xT, hcx⟩ := Hc.out k x hx
      have hst := hits_snoc (n * (L : Int)) seg (ind, pts, lg) hx
      have hln := hits_len (n * (L : Int)) (seg.take k) (ind, pts, lg)
      have hcx := hcx wr ht
      obtain ⟨x, rfl⟩ := Int.eq_ofNat_of_zero_le x0
      obtain ⟨y, hy, hcy⟩ := hsw.oi.cell (i := x) (by rw [hln.1, HT.out]; omega)
      obtain ⟨hc0, hc1, hc2, hc3, hc4, hcf⟩ := hsw.cells
      have hfy := hsw.oi.frozen x
      have hsw' := hsw.count x (wrap32 (y - 1))
      have hlk : (seg.take k).length ≤ 10000 := by have := List.length_take_le k seg; omega
      have HST := hide hst
      have HLN := hide hln
      have HY := hide hy
      have HSW := hide hsw
      have HSW' := hide hsw'
      have HTt := hide ht
      have HF1 := hide f1
      have HF2 := hide f2
      have HXk := hide hx
      clear hst hln hy hsw hsw' ht f1 f2 hx hc2 hc3 hc4
      by_cases hz : wrap32 (y - 1) = 0
      · have hzb : (wrap32 (y - 1) == 0) = true := by simp [hz]
        have HZ := hide hz
        clear hz
        go_wp2_with fail
        have hsub := bls_fr (gs := gs) (gl := gl) (vi := .slice (some ⟨gi, 0, none⟩) T ci) (Fr.refl w2 (.slice al' nl' cl')) HF1.out HF2.out
        have htr := HTt.out.trans HSW'.out.2 hsub
        have hdg := HD2.out.dg.touch htr c1
        refine (release_any B gs gd gl _ _ vp' vl' _ _ _ _ n x L _ HSW'.out.1 hdg hL h1 h2 (by have : _ ≤ pts.length + (seg.take k).length := HLN.out.2.1; omega) (by have : _ ≤ lg.length + (seg.take k).length := HLN.out.2.2; omega)).mono ?_
        rintro e w4 ⟨rfl, vp'', vl'', k1, k2, k3, k4⟩
        have R1 : RelS B gs gd gl (.slice (some ⟨gi, 0, none⟩) T ci) (.slice al' nl' cl') vp vl (n * (L : Int)) (ind, pts, lg) (tk ++ [p]) seg (bls gs gl (.slice (some ⟨gi, 0, none⟩) T ci) (.slice al' nl' cl') vp vl) w2 (k + 1) w4 := by
          refine ⟨vp'', vl'', ?_, htr.trans k2 hsub, HF1.out.trans k3 htr.size, HF2.out.trans k4 htr.size⟩
          rw [HST.out, hit_zero _ _ _ HY.out HZ.out]; exact k1
        have HR1 := hide R1
        clear R1 k1 k2 k3 k4 htr hdg hsub
        go_wp2_with fail
        go_roundw
        case rel => exact ⟨k + 1, by omega, by go_num, HR1.out⟩
        case measure => simp [intOf]; omega
      · have hzb : (wrap32 (y - 1) == 0) = false := by simp [hz]
        have HZ := hide hz
        clear hz
        go_wp2_with fail
        go_roundw
        case rel => exact ⟨k + 1, by omega, by go_num, vp', vl', by rw [HST.out, hit_non _ _ _ HY.out HZ.out]; exact HSW'.out.1, HTt.out.trans HSW'.out.2 (bls_fr (Fr.refl w2 _) HF1.out HF2.out), HF1.out, HF2.out⟩
        case measure => simp [intOf]; omega
    · have hkN : seg.take k = seg := List.take_of_length_le (by rw [HL.out]; omega)
      rw [hkN] at hsw
      have hln := hits_len (n * (L : Int)) seg (ind, pts, lg)
      have hdg := HD2.out.dg.touch ht c1
      obtain ⟨dl, dc, hd2⟩ := hdg.l2
      have hd1 := hdg.n1
      obtain ⟨hc0, hc1, hc2, hc3, hc4, hcf⟩ := hsw.cells
      have HSW := hide hsw
      have HTt := hide ht
      have HF1 := hide f1
      have HF2 := hide f2
      have HDG := hide hdg
      have HLN := hide hln
      clear hsw ht f1 f2 hdg hln hkN hc2 hc3 hc4
      by_cases hpt : n * (L : Int) ≤ p
      · have C : Hid (∀ w', w'.cell? ⟨gd, 1, none⟩ = some (.int .i32 n) → w'.cell? ⟨gd, 2, none⟩ = some (.slice dl L dc) → Calls Yba.prog 12 #[.pointer (some ⟨gd, 0, none⟩), .int .i32 p] w' fun e w'' => e = .returned (.bool true) ∧ ∃ q, w'' = w'.drewN q) := by
          intro w' g1 g2
          have := isPoint_any gd p n dl L dc w' g1 g2 hL h1 h2
          rwa [decide_eq_true hpt] at this
        go_wp2_with fail
        go_quiet ((go_at_call 12; exact Calls.quiet_of (C.out _ (by exact hd1) (by exact hd2))))
        go_wp2_with fail
        go_end0
        refine ⟨rfl, _, _, _, ?_, HT2.out.trans (HTt.out.drewN nq) HSUB.out, HFT.out, HF1.out.mono HT2.out.size, HF2.out.mono HT2.out.size⟩
        rw [tgts_no _ _ _ _ (by omega)]
        exact HSW.out.drewN nq
      · have C : Hid (∀ w', w'.cell? ⟨gd, 1, none⟩ = some (.int .i32 n) → w'.cell? ⟨gd, 2, none⟩ = some (.slice dl L dc) → Calls Yba.prog 12 #[.pointer (some ⟨gd, 0, none⟩), .int .i32 p] w' fun e w'' => e = .returned (.bool false) ∧ ∃ q, w'' = w'.drewN q) := by
          intro w' g1 g2
          have := isPoint_any gd p n dl L dc w' g1 g2 hL h1 h2
          rwa [decide_eq_false hpt] at this
        by_cases hla : p % (L : Int) < (L : Int) - 1
        · have hnx := next_lt p n L p0 hL1 (by omega) hla
          obtain ⟨p, rfl⟩ := Int.eq_ofNat_of_zero_le p0
          obtain ⟨y, hy, hcy⟩ := HSW.out.oi.cell (i := p + 1) (by rw [HLN.out.1, HT.out]; omega)
          have hfy := HSW.out.oi.frozen (p + 1)
          have HY := hide hy
          have hnx2 : (p : Int) + 1 < T := by omega
          clear hy
          by_cases hz : wrap32 (y - 1) = 0
          · have hzb : (wrap32 (y - 1) == 0) = true := by simp [hz]
            have HZ := hide hz
            clear hz
            go_wp2_with fail
            go_quiet (first | (go_at_call 12; exact Calls.quiet_of (C.out _ (by exact hd1) (by exact hd2))) | (go_at_call 13; exact Calls.quiet_of_same (layer_any gd p dl L dc _ (by exact hd2) hL hL1 p0 (by omega))) | (go_at_call 14; exact Calls.quiet_of_same (last_any gd dl L dc _ (by exact hd2) hL hL1)))
            go_wp2_with fail
            have hsw' := (HSW.out.drewN nq).count (p + 1) (wrap32 (y - 1))
            have hsub := bls_fr (gs := gs) (gl := gl) (vi := .slice (some ⟨gi, 0, none⟩) T ci) (Fr.refl w2 (.slice al' nl' cl')) HF1.out HF2.out
            have htr := (HTt.out.drewN nq).trans hsw'.2 hsub
            have hdg := HD2.out.dg.touch htr c1
            refine (release_any B gs gd gl _ _ vp' vl' _ _ _ _ n ((p : Int) + 1) L _ hsw'.1 hdg hL h1 h2 (by have : _ ≤ pts.length + seg.length := HLN.out.2.1; have := HL.out; omega) (by have : _ ≤ lg.length + seg.length := HLN.out.2.2; have := HL.out; omega)).mono ?_
            rintro e w4 ⟨rfl, vp'', vl'', k1, k2, k3, k4⟩
            have k2' := htr.trans k2 hsub
            have K1 := hide k1
            have K2 := hide k2'
            have K3 := hide k3
            have K4 := hide k4
            have KS := htr.size
            clear k1 k2 k2' k3 k4 htr hsub hdg hsw'
            go_wp2_with fail
            go_end0
            refine ⟨rfl, _, _, _, ?_, HT2.out.trans K2.out HSUB.out, HFT.out, (HF1.out.trans K3.out KS).mono HT2.out.size, (HF2.out.trans K4.out KS).mono HT2.out.size⟩
            rw [tgts_fold _ _ _ _ (by omega) hla]
            have e1 : ((p : Int) + 1) = ((p + 1 : Nat) : Int) := by omega
            rw [e1, hit_zero _ _ _ HY.out HZ.out]
            have := K1.out
            rw [e1] at this
            exact this
          · have hzb : (wrap32 (y - 1) == 0) = false := by simp [hz]
            have HZ := hide hz
            clear hz
            go_wp2_with fail
            go_quiet (first | (go_at_call 12; exact Calls.quiet_of (C.out _ (by exact hd1) (by exact hd2))) | (go_at_call 13; exact Calls.quiet_of_same (layer_any gd p dl L dc _ (by exact hd2) hL hL1 p0 (by omega))) | (go_at_call 14; exact Calls.quiet_of_same (last_any gd dl L dc _ (by exact hd2) hL hL1)))
            go_wp2_with fail
            go_end0
            have hsw' := (HSW.out.drewN nq).count (p + 1) (wrap32 (y - 1))
            have hsub := bls_fr (gs := gs) (gl := gl) (vi := .slice (some ⟨gi, 0, none⟩) T ci) (Fr.refl w2 (.slice al' nl' cl')) HF1.out HF2.out
            have htr := (HTt.out.drewN nq).trans hsw'.2 hsub
            refine ⟨rfl, _, _, _, ?_, HT2.out.trans htr HSUB.out, HFT.out, HF1.out.mono HT2.out.size, HF2.out.mono HT2.out.size⟩
            rw [tgts_fold _ _ _ _ (by omega) hla]
            have e1 : ((p : Int) + 1) = ((p + 1 : Nat) : Int) := by omega
            rw [e1, hit_non _ _ _ HY.out HZ.out]
            exact hsw'.1
        · go_wp2_with fail
          go_quiet (first | (go_at_call 12; exact Calls.quiet_of (C.out _ (by exact hd1) (by exact hd2))) | (go_at_call 13; exact Calls.quiet_of_same (layer_any gd p dl L dc _ (by exact hd2) hL hL1 p0 (by omega))) | (go_at_call 14; exact Calls.quiet_of_same (last_any gd dl L dc _ (by exact hd2) hL hL1)))
          go_wp2_with fail
          go_end0
          refine ⟨rfl, _, _, _, ?_, HT2.out.trans (HTt.out.drewN nq) HSUB.out, HFT.out, HF1.out.mono HT2.out.size, HF2.out.mono HT2.out.size⟩
          rw [tgts_no _ _ _ _ (by omega)]
          exact HSW.out.drewN nq
end Go.Proofs.Ybulkaxc.Step
