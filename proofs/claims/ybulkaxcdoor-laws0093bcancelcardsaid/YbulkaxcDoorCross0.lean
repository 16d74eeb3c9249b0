/-
  For 'crossings': what it reads, what it may not disturb; the arcs that cross; the two appends.
-/
import Derived.Test.YbulkaxcDoorAny1
import Derived.Test.YbulkaxcDoorCan
import Derived.Test.YbulkaxcDoorOrd
namespace Go.Proofs.YbulkaxcDoor.Cross
open Go Go.RowKit Go.Proofs.YbulkaxcDoor.Mem Go.Proofs.YbulkaxcDoor.Pl Go.Proofs.YbulkaxcDoor.RS Go.Proofs.YbulkaxcDoor.Dg Go.Proofs.YbulkaxcDoor.Sr Go.Proofs.YbulkaxcDoor.Any1
set_option linter.unusedVariables false

/-! ### The arcs that cross -/
structure YS (hd : List Int) (b j : Nat) (ys : List Int) : Prop where
  len : ys.length ≤ j
  of : ∀ (i : Nat) (v : Int), ys[i]? = some v → ∃ q i' : Nat, v = ((q - 1 : Nat) : Int) ∧ q % 2 = 1 ∧ i' < j ∧ hd[b + i']? = some (q : Int)
  has : ∀ q i' : Nat, i' < j → hd[b + i']? = some (q : Int) → q % 2 = 1 → ∃ i : Nat, ys[i]? = some ((q - 1 : Nat) : Int)
theorem YS.zero (hd : List Int) (b : Nat) : YS hd b 0 [] := ⟨by simp, fun i v h => by simp at h, fun q i' h => by omega⟩
theorem YS.skip {hd : List Int} {b j : Nat} {ys : List Int} (h : YS hd b j ys) {q : Nat} (hq : hd[b + j]? = some (q : Int)) (he : q % 2 = 0) : YS hd b (j + 1) ys := by
  refine ⟨by have := h.len; omega, fun i v hv => ?_, fun q' i' hi hq' ho => ?_⟩
  · obtain ⟨a, i', h1, h2, h3, h4⟩ := h.of i v hv
    exact ⟨a, i', h1, h2, by omega, h4⟩
  · by_cases e : i' = j
    · subst e
      rw [hq] at hq'
      have : (q : Int) = (q' : Int) := Option.some.inj hq'
      omega
    · exact h.has q' i' (by omega) hq' ho
theorem YS.push {hd : List Int} {b j : Nat} {ys : List Int} (h : YS hd b j ys) {q : Nat} (hq : hd[b + j]? = some (q : Int)) (ho : q % 2 = 1) : YS hd b (j + 1) (ys ++ [((q - 1 : Nat) : Int)]) := by
  refine ⟨by have := h.len; simp; omega, fun i v hv => ?_, fun q' i' hi hq' ho' => ?_⟩
  · by_cases hl : i < ys.length
    · rw [List.getElem?_append_left hl] at hv
      obtain ⟨a, i', h1, h2, h3, h4⟩ := h.of i v hv
      exact ⟨a, i', h1, h2, by omega, h4⟩
    · rw [List.getElem?_append_right (by omega)] at hv
      refine ⟨q, j, ?_, ho, by omega, hq⟩
      have := List.mem_of_getElem? hv
      simpa using this
  · by_cases e : i' = j
    · subst e
      rw [hq] at hq'
      have : (q : Int) = (q' : Int) := Option.some.inj hq'
      have : q = q' := by omega
      subst this
      exact ⟨ys.length, by simp⟩
    · obtain ⟨i, h1⟩ := h.has q' i' (by omega) hq' ho'
      exact ⟨i, by rw [List.getElem?_append_left (List.getElem?_eq_some_iff.1 h1).1]; exact h1⟩

/-- Some arc that crosses from 2u is on a round. -/
def hit (A : List (Nat × Nat)) (u : Nat) : Prop := ∃ q, (2 * u, q) ∈ A ∧ q % 2 = 1 ∧ R A (q - 1) (2 * u)
theorem hit_of {A : List (Nat × Nat)} {P u : Nat} {st hd ys : List Int} (h : CSR A P st hd) (hy : YS hd (below (fsOf A) (2 * u)) (below (fsOf A) (2 * u + 1) - below (fsOf A) (2 * u)) ys) : hit A u ↔ ∃ i y : Nat, ys[i]? = some (y : Int) ∧ R A y (2 * u) := by
  constructor
  · rintro ⟨q, ha, ho, hr⟩
    obtain ⟨k, h1, h2, h3⟩ := h.of_arc ha
    obtain ⟨i, hi⟩ := hy.has q (k - below (fsOf A) (2 * u)) (by omega) (by rw [show below (fsOf A) (2 * u) + (k - below (fsOf A) (2 * u)) = k by omega]; exact h3) ho
    exact ⟨i, q - 1, hi, hr⟩
  · rintro ⟨i, y, hi, hr⟩
    obtain ⟨q, i', h1, h2, h3, h4⟩ := hy.of i _ hi
    obtain ⟨t, h5, h6⟩ := h.seg_of (p := 2 * u) (k := below (fsOf A) (2 * u) + i') (by omega) (by omega)
    rw [h4] at h6
    have e1 : (q : Int) = (t : Int) := Option.some.inj h6
    have e2 : q = t := by omega
    have e3 : y = q - 1 := by omega
    subst e2
    subst e3
    exact ⟨q, h5, h2, hr⟩

/-! ### The flag -/
def Can (w : World) (tag : Nat → Nat) (gg : Nat) : Option (Nat × Nat) → Nat → Prop
  | none, _ => Fix w tag ⟨gg, 22, none⟩ .nilIface
  | some (g, k), c => Fix w tag ⟨gg, 22, none⟩ (.iface 30 (.pointer (some ⟨g, 0, none⟩))) ∧ Blk w g 32 [.int .i64 (k : Int), .int .i64 (c : Int)] ∧ tag g = 0
def canc : Option (Nat × Nat) → Nat → Bool
  | none, _ => false
  | some (_, k), c => decide ((k : Int) < (c : Int) + 1)
theorem Can.tt {w w' : World} {tag tag' : Nat → Nat} {gg : Nat} {o : Option (Nat × Nat)} {c : Nat} (h : Can w tag gg o c) (t : TT tag w tag' w') : Can w' tag' gg o c := by
  cases o with
  | none => exact Fix.tt h t
  | some x => exact ⟨h.1.tt t, h.2.1.touch t.tch (fun hn => hn h.2.2), (t.old _ h.2.1.lt).trans h.2.2⟩

def ArcAt (w : World) (tag : Nat → Nat) (ga k : Nat) : Prop :=
  ∃ f t : Int, Fix w tag ⟨ga, k * 6, none⟩ (.int .i32 f) ∧ Fix w tag ⟨ga, k * 6 + 1, none⟩ (.int .i32 t) ∧ Fix w tag ⟨ga, k * 6 + 2, none⟩ (.int .u8 0) ∧ Fix w tag ⟨ga, k * 6 + 3, none⟩ (.int .i32 0) ∧ Fix w tag ⟨ga, k * 6 + 4, none⟩ (.int .i32 0) ∧ Fix w tag ⟨ga, k * 6 + 5, none⟩ (.int .i64 0)
theorem ArcAt.tt {w w' : World} {tag tag' : Nat → Nat} {ga k : Nat} (h : ArcAt w tag ga k) (t : TT tag w tag' w') : ArcAt w' tag' ga k := by
  obtain ⟨f, u, h0, h1, h2, h3, h4, h5⟩ := h
  exact ⟨f, u, h0.tt t, h1.tt t, h2.tt t, h3.tt t, h4.tt t, h5.tt t⟩

/-- What lies round the search. -/
structure Env (w : World) (tag : Nat → Nat) (B grs gd gg ga gh gs n m : Nat) (al : Option Addr) (cl : Nat) (A : List (Nat × Nat)) (st hd : List Int) (bb : Nat) (o : Option (Nat × Nat)) (c : Nat) : Prop where
  dg : DG w tag gd gg ga gh gs n m al cl A st hd
  fb : Fix w tag ⟨bb, 0, none⟩ (.pointer (some ⟨grs, 0, none⟩))
  fg : Fix w tag ⟨0, 0, none⟩ (.int .i64 8)
  arcs : ∀ k, k < m → ArcAt w tag ga k
  can : Can w tag gg o c
  off : ∀ g k, o = some (g, k) → g ≠ gd ∧ g ≠ gg ∧ g ≠ ga ∧ g ≠ gh ∧ g ≠ gs ∧ g ≠ bb ∧ g ≠ 0 ∧ B ≤ g
  tb : ∀ x, tag x ≠ 0 → B ≤ x
theorem Env.tt {w w' : World} {tag tag' : Nat → Nat} {B grs gd gg ga gh gs n m : Nat} {al : Option Addr} {cl : Nat} {A : List (Nat × Nat)} {st hd : List Int} {bb : Nat} {o : Option (Nat × Nat)} {c : Nat} (h : Env w tag B grs gd gg ga gh gs n m al cl A st hd bb o c) (t : TT tag w tag' w') (hB : B ≤ w.heap.size) : Env w' tag' B grs gd gg ga gh gs n m al cl A st hd bb o c :=
  ⟨h.dg.tt t, h.fb.tt t, h.fg.tt t, fun k hk => (h.arcs k hk).tt t, h.can.tt t, h.off, fun x hx => by
    by_cases hl : x < w.heap.size
    · rw [t.old x hl] at hx; exact h.tb x hx
    · omega⟩
/-- Behind a search nothing that lay there before the law has turned. -/
theorem Env.frame {w0 w w' : World} {tag tag' : Nat → Nat} {B grs gd gg ga gh gs n m : Nat} {al : Option Addr} {cl : Nat} {A : List (Nat × Nat)} {st hd : List Int} {bb : Nat} {o : Option (Nat × Nat)} {c : Nat} (h : Env w tag B grs gd gg ga gh gs n m al cl A st hd bb o c) (f : Tch (fun x => B ≤ x) w0 w) (t : TT tag w tag' w') : Tch (fun x => B ≤ x) w0 w' :=
  f.trans t.tch (fun x hx => .inl (h.tb x hx))

theorem _root_.Go.Proofs.YbulkaxcDoor.Dg.Fix.off {w w' : World} {tag : Nat → Nat} {g : Nat} {p : Addr} {v : Value} (h : Fix w tag p v) (t : Tch (fun x => x = g) w w') (hn : g ≠ p.block) : Fix w' tag p v := ⟨t.cell h.1 (fun e => hn e.symm), h.2⟩
/-- The flag is asked. -/
theorem cancel_any {w w0 : World} {tag : Nat → Nat} {B grs gd gg ga gh gs n m : Nat} {al : Option Addr} {cl : Nat} {A : List (Nat × Nat)} {st hd : List Int} {bb : Nat} {o : Option (Nat × Nat)} {c : Nat} {gr go gb cr co cb : Nat} {s : Rs}
    (h : Env w tag B grs gd gg ga gh gs n m al cl A st hd bb o c) (hg : Any1.Good w B grs gd n m gr go gb cr co cb tag A s) (f : Tch (fun x => B ≤ x) w0 w) (hc : c ≤ 1000) :
    Calls Ybad.prog 15 #[.pointer (some ⟨gg, 0, none⟩)] w fun e w' => e = .returned (.bool (canc o c)) ∧ Env w' tag B grs gd gg ga gh gs n m al cl A st hd bb o (c + 1) ∧ Any1.Good w' B grs gd n m gr go gb cr co cb tag A s ∧ Tch (fun x => B ≤ x) w0 w' := by
  cases o with
  | none =>
    refine (YbulkaxcDoor.Can.none_any w gg h.can.1).mono ?_
    rintro e w' ⟨rfl, rfl⟩
    exact ⟨rfl, ⟨h.dg, h.fb, h.fg, h.arcs, h.can, h.off, h.tb⟩, hg, f⟩
  | some x =>
    obtain ⟨g, k⟩ := x
    obtain ⟨h1, h2, h3⟩ := h.can
    obtain ⟨n1, n2, n3, n4, n5, n6, n7, n8⟩ := h.off g k rfl
    refine (YbulkaxcDoor.Can.some_any w gg g k c h1.1 (h2.cell 0) (h2.cell 1) (h2.frozen 1) (by omega) (by omega)).mono ?_
    rintro e w' ⟨rfl, q, rfl⟩
    have t : Tch (fun x => x = g) w ((w.setCell ⟨g, 1, none⟩ (.int .i64 ((c : Int) + 1))).drewN q) := ((Tch.refl (fun x => x = g) w).setCell (p := ⟨g, 1, none⟩) (.inl rfl) _).drewN q
    have d := h.dg
    refine ⟨rfl, ⟨⟨d.c0.off t n1, d.c1.off t n1, d.c2.off t n1, d.c3.off t n1, d.c4.off t n1, d.c5.off t n1, d.c6.off t n1, fun i x hx => (d.vs i x hx).off t n5, fun i x hx => (d.vh i x hx).off t n4, d.csr, d.lenA, d.hA, d.hn, d.hn1, d.hm⟩, h.fb.off t n6, h.fg.off t n7, fun k hk => ?_, ⟨h1.off t n2, ?_, h3⟩, h.off, h.tb⟩, ⟨hg.rs.other t h3, hg.er, hg.eo, hg.eb, hg.ix, hg.lo, hg.lb, hg.s0⟩, f.trans t (fun x hx => .inl (by rw [hx]; exact n8))⟩
    · obtain ⟨f, u, a0, a1, a2, a3, a4, a5⟩ := h.arcs k hk
      exact ⟨f, u, a0.off t n3, a1.off t n3, a2.off t n3, a3.off t n3, a4.off t n3, a5.off t n3⟩
    · have := (h2.set 1 (.int .i64 ((c : Int) + 1))).drewN q
      have e : (((c + 1 : Nat) : Int)) = (c : Int) + 1 := by omega
      rw [e]; exact this

/-! ### The two appends -/
/-- The search in memory; the block's cells by themselves. -/
structure RV (w : World) (B grs P : Nat) (tag : Nat → Nat) (cs : List Value) (s : Rs) : Prop where
  blk : Blk w grs 57 cs
  own : ∀ i, s.own P B w i
  hB : B ≤ w.heap.size
  tg : tag grs = 1
  tv : ∀ i g, (s.val i).ownBlock = some g → tag g = i
section
variable {w w' : World} {B grs gd P : Nat} {tag : Nat → Nat} {s : Rs} {cs : List Value}
theorem RV.of (h : RS w B grs gd P tag s) : RV w B grs P tag (s.cells gd) s := ⟨h.blk, h.own, h.hB, h.tg, h.tv⟩
theorem RV.rs (h : RV w B grs P tag (s.cells gd) s) : RS w B grs gd P tag s := ⟨h.blk, h.own, h.hB, h.tg, h.tv⟩
theorem RV.keep (h : RV w B grs P tag cs s) (t : Tch Non w w') : RV w' B grs P tag cs s :=
  ⟨h.blk.keep t, fun i => Rs.own_touch t i (h.own i) (fun _ _ h => h), Nat.le_trans h.hB t.size, h.tg, h.tv⟩
theorem RV.not_grs (h : RV w B grs P tag cs s) (k : Nat) (hk : 2 ≤ k) {g : Nat} (hg : (s.val k).ownBlock = some g) : g ≠ grs := by
  intro e
  have := h.tv k g hg
  rw [e, h.tg] at this
  omega
theorem RV.app (h : RV w B grs P tag cs s) (k : Nat) (hk : 2 ≤ k) (s' : Rs) (t : Tch (fun x => (s.val k).ownBlock = some x) w w')
    (ho : ∀ i, i ≠ k → s'.val i = s.val i ∧ ∀ w, s'.own P B w i = s.own P B w i) (hkk : s'.own P B w' k) (hf : Fr w (s.val k) (s'.val k)) :
    ∃ tag', RV w' B grs P tag' cs s' ∧ TT tag w tag' w' := by
  have hgl := h.blk.lt
  refine ⟨fun x => if x < w.heap.size then tag x else k, ⟨h.blk.touch t (fun hm => h.not_grs k hk hm rfl), fun i => ?_, Nat.le_trans h.hB t.size, ?_, fun i g hg => ?_⟩, ⟨t.mono (fun x hx => .inl ?_), fun x hx => if_pos hx⟩⟩
  · by_cases e : i = k
    · rw [e]; exact hkk
    · rw [(ho i e).2]
      exact Rs.own_touch t i (h.own i) (fun g hg hs => e ((h.tv i g hg).symm.trans (h.tv k g hs)))
  · simp only [if_pos hgl]; exact h.tg
  · by_cases e : i = k
    · subst e
      rcases hf g hg with h1 | h1
      · have := (Rs.own_lt i (h.own i) h1).2
        simp only [if_pos this]; exact h.tv i g h1
      · have : ¬ g < w.heap.size := by omega
        simp only [if_neg this]
    · rw [(ho i e).1] at hg
      have := (Rs.own_lt i (h.own i) hg).2
      simp only [if_pos this]
      exact h.tv i g hg
  · rw [h.tv k x hx]; omega
theorem RV.set (h : RV w B grs P tag cs s) (j : Nat) (v : Value) : RV (w.setCell ⟨grs, j, none⟩ v) B grs P tag (cs.set j v) s ∧ TT tag w tag (w.setCell ⟨grs, j, none⟩ v) := by
  have t := (Tch.refl (fun x => x = grs) w).setCell (p := ⟨grs, j, none⟩) (.inl rfl) v
  refine ⟨⟨h.blk.set j v, fun i => Rs.own_touch t i (h.own i) (fun g hg hs => ?_), Nat.le_trans h.hB t.size, h.tg, h.tv⟩, ⟨t.mono (fun x hx => .inl (by rw [hx, h.tg]; simp)), fun _ _ => rfl⟩⟩
  have := h.tv i g hg
  rw [hs, h.tg] at this
  subst this
  simp [Rs.val, Value.ownBlock] at hg
/-- append onto ys. -/
theorem RV.appY (h : RV w B grs P tag cs s) (v' : Value) (l : List Int) (t : Tch (fun x => s.vy.ownBlock = some x) w w') (ho : Own .i32 21 w' B v' l) (hf : Fr w s.vy v') : ∃ tag', RV w' B grs P tag' cs { s with ys := l, vy := v' } ∧ TT tag w tag' w' := by
  refine h.app 8 (by decide) { s with ys := l, vy := v' } t (fun i hi => ⟨?_, fun w => ?_⟩) ho hf
  · unfold Rs.val; split <;> first | rfl | exact absurd rfl hi
  · unfold Rs.own; split <;> first | rfl | exact absurd rfl hi
/-- append onto arcs. -/
theorem RV.appA (h : RV w B grs P tag cs s) (v' : Value) (k : Nat) (t : Tch (fun x => s.va.ownBlock = some x) w w') (ho : ∃ xs, w'.ownsRow B 64 6 v' k xs) (hf : Fr w s.va v') : ∃ tag', RV w' B grs P tag' cs { s with nA := k, va := v' } ∧ TT tag w tag' w' := by
  refine h.app 9 (by decide) { s with nA := k, va := v' } t (fun i hi => ⟨?_, fun w => ?_⟩) ho hf
  · unfold Rs.val; split <;> first | rfl | exact absurd rfl hi
  · unfold Rs.own; split <;> first | rfl | exact absurd rfl hi
end

theorem info64 : (Ybad.prog.info? 64).map (fun i => (i.zero, i.size, i.bytes)) = some (some (.agg #[.int .i32 0, .int .i32 0, .int .u8 0, .int .i32 0, .int .i32 0, .int .i64 0]), 6, 32) := by kernel_rfl

/-- append of one arc, as one step of a region that draws its order. -/
theorem step_appA {w : World} {ops : Array Oper} {o : Oper} {a : Act} {K : Act → World → Prop} {Q : Exit → Act → World → Prop} {E : Prop} (hgd : o.guard = none) (s x : Operand)
    (ho : o.op = .call { callee := .builtin .append, args := #[s, x], argTypes := #[43, 43] })
    {B : Nat} {v : Value} {n c : Nat} (hs : a.eval s = v) (hown : ∃ xs, w.ownsRow B 64 6 v n xs) {ad : Addr} (hx : a.eval x = .slice (some ad) 1 c) {news : List Value} (hl : news.length = 6) (hnews : ∀ (j : Nat) (u : Value), news[j]? = some u → w.cell? (ad.add j) = some u) (h1 : ∀ u ∈ news, u.oneCell' = true) (hlen : n ≤ 1000000) (hB : B ≤ w.heap.size)
    (h : ∀ v' w', (∃ xs, w'.ownsRow B 64 6 v' (n + 1) xs) → Tch (fun x => v.ownBlock = some x) w w' → Fr w v v' → K (a.put o.dst v') w') :
    if Region.wanted o (yielded ops a.tmps) = true then Oper.wp Ybad.prog o a w K Q else E := by
  have hw : Region.wanted o (yielded ops a.tmps) = true := by simp [Region.wanted, hgd]
  rw [if_pos hw]
  obtain ⟨i, hi, hz0, hz1, hz2⟩ := info_parts info64
  obtain ⟨xs, hown⟩ := hown
  obtain ⟨v', w', hr, h2, h3, h4⟩ := run_append_fr (P := Ybad.prog) w B 43 o.type 64 i _ 6 32 Ybad.underlying43 hi hz0 hz1 hz2 rfl (by decide) v n xs hown ad 1 c news (by rw [hl]) hnews h1 (by unfold maxLen; omega) (by omega) hB
  unfold Oper.wp execOp
  simp only [ho, resolve, invoke, builtin, Sem.run_bind, Sem.run_pure, Result.andThen_ok, List.map_toArray, List.map_cons, List.map_nil, hs, hx, hr]
  exact h v' w' ⟨_, h2⟩ h3 h4

/-- The arcs and the heads of a place. -/
theorem from2 {w : World} {tag : Nat → Nat} {gd gg ga gh gs n m : Nat} {al : Option Addr} {cl : Nat} {A : List (Nat × Nat)} {st hd : List Int} (d : DG w tag gd gg ga gh gs n m al cl A st hd) (p : Nat) (hp : p < 2 * n) :
    Calls Ybad.prog 17 #[.pointer (some ⟨gd, 0, none⟩), .int .i32 (p : Int)] w fun e w' => ∃ o c o' c', e = .returned (.tuple #[.slice (some ⟨ga, o', none⟩) (below (fsOf A) (p + 1) - below (fsOf A) p) c', .slice (some ⟨gh, o, none⟩) (below (fsOf A) (p + 1) - below (fsOf A) p) c]) ∧ (0 < below (fsOf A) (p + 1) - below (fsOf A) p → o = below (fsOf A) p ∧ o' = below (fsOf A) p * 6) ∧ ∃ q, w' = w.drewN q := by
  have hb1 := below_succ (fsOf A) p
  have hb2 := below_le (fsOf A) (p + 1)
  have hl : (fsOf A).length = m := by unfold fsOf; rw [List.length_map]; exact d.lenA
  have hn := d.hn
  have hm := d.hm
  have ha := d.c4.1
  have hh := d.c5.1
  have hs := d.c6.1
  have hi := (d.vs p _ (d.csr.starts p (by omega))).1
  have hj := (d.vs (p + 1) _ (d.csr.starts (p + 1) (by omega))).1
  clear d
  generalize below (fsOf A) p = i at *
  generalize below (fsOf A) (p + 1) = j at *
  have hij : i ≤ j := by omega
  have hjm : j ≤ m := by omega
  clear hb1 hb2 hl
  have e : ((j : Int) - (i : Int)).toNat = j - i := by omega
  by_cases hc : i = m
  · obtain rfl : j = i := by omega
    subst hc
    go_enter Ybad.func17, Ybad.ntmps17
    go_wp2
    go_quiet (fail)
    go_wp2
    generalize hW : World.drewN _ _ = W
    have ha' : W.cell? ⟨gd, 4, none⟩ = some (.slice (some ⟨ga, 0, none⟩) j j) := by rw [← hW]; exact ha
    have hh' : W.cell? ⟨gd, 5, none⟩ = some (.slice (some ⟨gh, 0, none⟩) j j) := by rw [← hW]; exact hh
    have HW := hide hW
    clear hW ha hh hs hi hj
    go_quiet (fail)
    go_wp2
    go_ret2
    refine ⟨0, 0, 0, 0, ?_, fun h => by omega, _, by rw [← HW.out, World.drewN_drewN]⟩
    first | rfl | simp
  · go_enter Ybad.func17, Ybad.ntmps17
    go_wp2
    go_quiet (fail)
    go_wp2
    generalize hW : World.drewN _ _ = W
    have ha' : W.cell? ⟨gd, 4, none⟩ = some (.slice (some ⟨ga, 0, none⟩) m m) := by rw [← hW]; exact ha
    have hh' : W.cell? ⟨gd, 5, none⟩ = some (.slice (some ⟨gh, 0, none⟩) m m) := by rw [← hW]; exact hh
    have HW := hide hW
    clear hW ha hh hs hi hj
    go_quiet (fail)
    go_wp2
    go_ret2
    exact ⟨_, _, _, _, rfl, fun h => ⟨rfl, rfl⟩, _, by rw [← HW.out, World.drewN_drewN]⟩
end Go.Proofs.YbulkaxcDoor.Cross
