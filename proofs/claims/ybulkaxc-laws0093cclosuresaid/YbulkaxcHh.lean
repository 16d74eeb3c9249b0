/-
  heldHeads (22), by contract: where all is marked open, no heads.
-/
import Derived.Test.YbulkaxcSortS
import Derived.Deep.RegionHeld3
import Derived.Deep.RegionLaw
import Derived.Deep.DeepCutAuto
import Derived.Deep.QuietTactic
import Derived.BigQuiet
import Derived.WalkSpells
namespace Go.Proofs.Ybulkaxc.Hh
open Go Go.RowKit Go.Proofs.Ybulkaxc.M2 Go.Proofs.Ybulkaxc.Cm Go.Proofs.Ybulkaxc.Kn Go.Proofs.Ybulkaxc.So
set_option linter.unusedVariables false

theorem info23 : (Yba.prog.info? 23).map (fun i => (i.zero, i.size, i.bytes)) = some (some (.slice none 0 0), 1, 24) := by kernel_rfl

/-- A row of nil slices. -/
def hdT (B gH n : Nat) : Thing := ⟨fun w => w.ownsRow B 23 1 (.slice (some ⟨gH, 0, none⟩) n n) n (List.replicate n (.slice none 0 0)), some gH⟩
theorem hdT_fine (B gH n : Nat) : (hdT B gH n).Fine :=
  ⟨fun S w w' t hn h => ownsRow_touch h t hn, fun w g hg h => (World.ownsRow.lt h g hg).2⟩
theorem hdT_at {w : World} {B gH n i : Nat} (h : (hdT B gH n).say w) (hi : i < n) : w.cell? ⟨gH, i, none⟩ = some (.slice none 0 0) := by
  have := World.ownsRow.cellAt h i (by omega)
  rw [this, List.getElem?_replicate, if_pos hi]
def H7 (B b7 b11 b13 gH gR n : Nat) (vf vk : Value) (l4 : List Int) (v6 : Value) (l6 : List Int) (v7 : Value) (l7 : List Int) : Nat → Thing
  | 1 => bkT b7 107 [vf]
  | 2 => bkT b11 103 [vk]
  | 3 => hdT B gH n
  | 4 => slT .i32 21 B (.slice (some ⟨gR, 0, none⟩) n n) l4
  | 5 => bkT b13 23 [.slice (some ⟨gR, 0, none⟩) n n]
  | 6 => slT .i32 21 B v6 l6
  | 7 => slT .i32 21 B v7 l7
  | _ => noT
section
variable {w w' : World} {tag : Nat → Nat} {B b7 b11 b13 gH gR n : Nat} {vf vk : Value} {l4 : List Int} {v6 : Value} {l6 : List Int} {v7 : Value} {l7 : List Int}
theorem putH {l4' : List Int} {v6' : Value} {l6' : List Int} {v7' : Value} {l7' : List Int} (h : Bag w tag (H7 B b7 b11 b13 gH gR n vf vk l4 v6 l6 v7 l7)) (k : Nat) (hk : k ≠ 0) (t : Tch (fun x => (H7 B b7 b11 b13 gH gR n vf vk l4 v6 l6 v7 l7 k).blk = some x) w w')
    (hfi : (H7 B b7 b11 b13 gH gR n vf vk l4' v6' l6' v7' l7' k).Fine) (hs : (H7 B b7 b11 b13 gH gR n vf vk l4' v6' l6' v7' l7' k).say w') (hf : ∀ g, (H7 B b7 b11 b13 gH gR n vf vk l4' v6' l6' v7' l7' k).blk = some g → (H7 B b7 b11 b13 gH gR n vf vk l4 v6 l6 v7 l7 k).blk = some g ∨ w.heap.size ≤ g)
    (heq : ∀ i, i ≠ k → H7 B b7 b11 b13 gH gR n vf vk l4' v6' l6' v7' l7' i = H7 B b7 b11 b13 gH gR n vf vk l4 v6 l6 v7 l7 i) : ∃ tag', Bag w' tag' (H7 B b7 b11 b13 gH gR n vf vk l4' v6' l6' v7' l7') ∧ TB tag w tag' w' := by
  obtain ⟨tag', h1, h2⟩ := h.put k hk t _ hfi hs hf
  refine ⟨tag', Bag.congr h1 (fun i => ?_), h2⟩
  by_cases e : i = k
  · rw [if_pos e, e]
  · rw [if_neg e, heq i e]
theorem putH4 (h : Bag w tag (H7 B b7 b11 b13 gH gR n vf vk l4 v6 l6 v7 l7)) {l : List Int} (t : Tch (fun x => x = gR) w w') (ho : Own .i32 21 w' B (.slice (some ⟨gR, 0, none⟩) n n) l) : ∃ tag', Bag w' tag' (H7 B b7 b11 b13 gH gR n vf vk l v6 l6 v7 l7) ∧ TB tag w tag' w' := by
  refine putH h 4 (by decide) (t.mono (fun x hx => .inl (by rw [hx]; rfl))) (slT_fine _ _ _ _ _) ho (fun g hg => .inl hg) ?_
  intro i hi
  match i, hi with
  | 0, _ | 1, _ | 2, _ | 3, _ | 5, _ | 6, _ | 7, _ => rfl
  | 4, hi => exact absurd rfl hi
  | k + 8, _ => rfl
theorem putH6 (h : Bag w tag (H7 B b7 b11 b13 gH gR n vf vk l4 v6 l6 v7 l7)) {v : Value} {l : List Int} (t : Tch (fun x => v6.ownBlock = some x) w w') (ho : Own .i32 21 w' B v l) (hf : Fr w v6 v) : ∃ tag', Bag w' tag' (H7 B b7 b11 b13 gH gR n vf vk l4 v l v7 l7) ∧ TB tag w tag' w' := by
  refine putH h 6 (by decide) t (slT_fine _ _ _ _ _) ho hf ?_
  intro i hi
  match i, hi with
  | 0, _ | 1, _ | 2, _ | 3, _ | 4, _ | 5, _ | 7, _ => rfl
  | 6, hi => exact absurd rfl hi
  | k + 8, _ => rfl
theorem putH7 (h : Bag w tag (H7 B b7 b11 b13 gH gR n vf vk l4 v6 l6 v7 l7)) {v : Value} {l : List Int} (t : Tch (fun x => v7.ownBlock = some x) w w') (ho : Own .i32 21 w' B v l) (hf : Fr w v7 v) : ∃ tag', Bag w' tag' (H7 B b7 b11 b13 gH gR n vf vk l4 v6 l6 v l) ∧ TB tag w tag' w' := by
  refine putH h 7 (by decide) t (slT_fine _ _ _ _ _) ho hf ?_
  intro i hi
  match i, hi with
  | 0, _ | 1, _ | 2, _ | 3, _ | 4, _ | 5, _ | 6, _ => rfl
  | 7, hi => exact absurd rfl hi
  | k + 8, _ => rfl
end
/-- The positions so far. -/
def upN (n c : Nat) : List Nat := (List.range n).map (fun i => if i < c then i else 0)
theorem upN_len (n c : Nat) : (upN n c).length = n := by simp [upN]
theorem upN_zero (n : Nat) : castN (upN n 0) = List.replicate n 0 := by
  apply List.ext_getElem?
  intro i
  unfold castN upN
  by_cases hi : i < n
  · simp [hi]
  · rw [List.getElem?_eq_none (by simp; omega), List.getElem?_eq_none (by simp; omega)]
theorem upN_step {n c : Nat} (hc : c < n) : (castN (upN n c)).set c (c : Int) = castN (upN n (c + 1)) := by
  apply List.ext_getElem?
  intro i
  rw [List.getElem?_set]
  unfold castN upN
  by_cases hi : i < n
  · by_cases e : c = i
    · subst e; simp [hi]
    · rw [if_neg e]
      have e2 : (i < c + 1) ↔ (i < c) := by omega
      simp [hi, e2]
  · rw [List.getElem?_eq_none (by simp; omega), List.getElem?_eq_none (by simp; omega), if_neg (by omega)]
theorem upN_end (n : Nat) : upN n n = List.range n := by
  unfold upN
  apply List.ext_getElem?
  intro i
  by_cases hi : i < n
  · simp [hi]
  · rw [List.getElem?_eq_none (by simp; omega), List.getElem?_eq_none (by simp; omega)]
def L1 (w : World) (b7 b11 b13 gH gR n : Nat) (vf vk : Value) (c : Nat) (wq : World) : Prop :=
  ∃ tag, Bag wq tag (H7 w.heap.size b7 b11 b13 gH gR n vf vk (castN (upN n c)) (.slice none 0 0) [] (.slice none 0 0) []) ∧ TB (fun _ => 0) w tag wq
def L2 (w : World) (b7 b11 b13 gH gR n : Nat) (vf vk : Value) (l4 : List Nat) (ws : List Nat) (pt : List Bool) (j : Nat) (v16 v17 : Value) (wq : World) : Prop :=
  ∃ tag a6 n6 c6 a7 n7 c7 l6 run, v16 = .slice a6 n6 c6 ∧ v17 = .slice a7 n7 c7 ∧ Bag wq tag (H7 w.heap.size b7 b11 b13 gH gR n vf vk (castN l4) (.slice a6 n6 c6) l6 (.slice a7 n7 c7) (castN run)) ∧ TB (fun _ => 0) w tag wq ∧
    l6.length ≤ j ∧ run.length ≤ j ∧ (∀ r ∈ run, r < n ∧ ∃ x, ws[r]? = some x ∧ pt[x]? = some false)
/-- What heldHeads answers. -/
def HRet (w : World) (n : Nat) (e : Ending) (w' : World) : Prop :=
  ∃ gH, e = .returned (.slice (some ⟨gH, 0, none⟩) n n) ∧ (∀ i, i < n → w'.cell? ⟨gH, i, none⟩ = some (.slice none 0 0)) ∧ Tch Non w w'

set_option maxRecDepth 10000 in
set_option maxHeartbeats 4000000 in
theorem heldHeads_any (w : World) (gg gp gop nn b4 grp gpo k : Nat) (ak : Option Addr) (nk ck : Nat) (ks : List (List Nat)) (ws : List Nat) (pt : List Bool) (hg : Gm w gg ak nk ck nn ks) (hp : Pb w gp nn pt) (hop : Pb w gop nn (List.replicate nn true)) (hl : Lw w b4 grp gpo nn)
    (hk : ks[k]? = some ws) (hnk : nk ≤ 64) (hnn : nn ≤ 100) :
    Calls Yba.prog 22 #[.pointer (some ⟨gg, 0, none⟩), .int .i32 (k : Int), .func (.func 21) #[] #[.pointer (some ⟨b4, 0, none⟩)], .slice (some ⟨gp, 0, none⟩) nn nn, .slice (some ⟨gop, 0, none⟩) nn nn] w fun e w' => HRet w ws.length e w' := by
  have hkn : k < nk := by rw [← hg.len]; exact (List.getElem?_eq_some_iff.1 hk).1
  have HG := hide hg
  have HP := hide hp
  have HOP := hide hop
  have HL := hide hl
  obtain ⟨gk, aw, cw, rfl, ckey0, csrc⟩ := hg.key k ws hk
  have hrg := hg.rng ws (List.mem_of_getElem? hk)
  have HRG := hide hrg.2
  have hwl := hrg.1
  have HSRC := hide csrc
  have c6 := hg.kc
  have HCK := hide ckey0
  obtain ⟨i0, hi0, hz0, hz1, hz2⟩ := info_parts info21
  obtain ⟨i1, hi1, hy0, hy1, hy2⟩ := info_parts info23
  clear hg hp hop hl hk hrg csrc ckey0
  have e1 : (k : Int) < (nk : Int) := by omega
  obtain ⟨tag1, hb1, ht1⟩ := bag_new (bag_none w) 1 (by decide) #[.func (.func 21) #[] #[.pointer (some ⟨b4, 0, none⟩)]] 107
  have HB1 := hide hb1
  have HT1 := hide ht1
  clear hb1 ht1
  generalize hwl' : ws.length = n at *
  go_enter Yba.func22, Yba.ntmps22
  go_upto_region 1 with fail
  have c6 : (w.alloc (.cells #[.func (.func 21) #[] #[.pointer (some ⟨b4, 0, none⟩)]] 107)).cell? ⟨gg, 6, none⟩ = some (.slice (some ⟨gk, 0, none⟩) nk ck) := (Cm.TB.toNon HT1.out).cell HG.out.kc (fun h => h)
  generalize w.alloc (.cells #[.func (.func 21) #[] #[.pointer (some ⟨b4, 0, none⟩)]] 107) = w1 at *
  go_upto_region 2 with fail
  obtain ⟨tag2, hb2, ht2⟩ := bag_new HB1.out 2 (by decide) #[.pointer (some ⟨gk, k * 4, none⟩)] 103
  have HB2 := hide hb2
  have HT2 := hide (HT1.out.trans ht2)
  clear hb2 ht2 HB1 HT1 c6
  generalize w1.alloc (.cells #[.pointer (some ⟨gk, k * 4, none⟩)] 103) = w2 at *
  generalize hb11 : w1.heap.size = b11 at *
  generalize hb7 : w.heap.size = b7 at HB2 ⊢
  have c11 : w2.cell? ⟨b11, 0, none⟩ = some (.pointer (some ⟨gk, k * 4, none⟩)) := Blk.cell (show Blk w2 b11 103 [.pointer (some ⟨gk, k * 4, none⟩)] from HB2.out.say 2) 0
  have ckey : w2.cell? ⟨gk, k * 4 + 1, none⟩ = some (.slice aw n cw) := (Cm.TB.toNon HT2.out).cell HCK.out (fun h => h)
  go_upto_region 3 with (first
    | (refine wpList_make_full _ rfl (.tmp 36) (.tmp 36) 46 rfl w2.heap.size 23 i1 (.slice none 0 0) 1 Yba.underlying46 hi1 hy0 hy1 .i64 .i64 _ _ n rfl rfl rfl rfl (by rw [hy2]; omega) (by unfold maxLen; omega) (Nat.le_refl _) ?_; intro w3 hown3 hgr3; have t3 : Tch Non w2 w3 := (Tch.refl _ _).of_grownBy hgr3 (by simp); have O3 := hide hown3; have T3 := hide t3; clear hown3 hgr3 t3) | fail)
  have hsay : (hdT w.heap.size w2.heap.size n).say w3 := by
    have h := O3.out
    have e : (madeCells (Value.slice none 0 0).cells (n * 1)).toList = List.replicate n (.slice none 0 0) := by
      rw [Nat.mul_one]
      have : (Value.slice none 0 0).cells = #[.slice none 0 0] := rfl
      rw [this, toList_madeCells_one]
    rw [e] at h
    exact ⟨h.1, h.2.elim .inl (fun ⟨g, cap, cur, hv, hb', rest⟩ => .inr ⟨g, cap, cur, hv, Nat.le_trans HT2.out.tch.size hb', rest⟩)⟩
  obtain ⟨tag3, hb3, ht3⟩ := HB2.out.put 3 (by decide) T3.out.non (hdT w.heap.size w2.heap.size n) (hdT_fine _ _ _) hsay (fun g hg => .inr (by have e : w2.heap.size = g := Option.some.inj hg; omega))
  have HB3 := hide hb3
  have HT3 := hide (HT2.out.trans ht3)
  clear hb3 ht3 hsay HB2 O3 T3 c11 ckey
  generalize hgH : w2.heap.size = gH at *
  have c11 : w3.cell? ⟨b11, 0, none⟩ = some (.pointer (some ⟨gk, k * 4, none⟩)) := Blk.cell (show Blk w3 b11 103 [.pointer (some ⟨gk, k * 4, none⟩)] from HB3.out.say 2) 0
  have ckey : w3.cell? ⟨gk, k * 4 + 1, none⟩ = some (.slice aw n cw) := (Cm.TB.toNon HT3.out).cell HCK.out (fun h => h)
  go_upto_region 4 with (first
    | (refine wpList_make_full _ rfl (.tmp 42) (.tmp 42) 23 rfl w3.heap.size 21 i0 (.int .i32 0) 1 Yba.underlying23 hi0 hz0 hz1 .i64 .i64 _ _ n rfl rfl rfl rfl (by rw [hz2]; omega) (by unfold maxLen; omega) (Nat.le_refl _) ?_; intro w4 hown4 hgr4; obtain ⟨tag4, hb4, ht4⟩ := bag_make HB3.out 4 (by decide) HT3.out.tch.size (Own.made hown4) ((Tch.refl _ _).of_grownBy hgr4 (by simp)); have HB4 := hide hb4; have HT4 := hide (HT3.out.trans ht4); clear hown4 hgr4 hb4 ht4) | fail)
  obtain ⟨tag5, hb5, ht5⟩ := bag_new HB4.out 5 (by decide) #[.slice (some ⟨w3.heap.size, 0, none⟩) n n] 23
  have hgR : w.heap.size ≤ w3.heap.size := HT3.out.tch.size
  have ht5' := HT4.out.trans ht5
  obtain ⟨tag6, hb6, ht6⟩ := hb5.put 6 (by decide) (Tch.refl _ _) (slT .i32 21 w.heap.size (.slice none 0 0) []) (slT_fine _ _ _ _ _) (Own.nil _ _ _ _) (fun g hg => by cases hg)
  obtain ⟨tag7, hb7x, ht7⟩ := hb6.put 7 (by decide) (Tch.refl _ _) (slT .i32 21 w.heap.size (.slice none 0 0) []) (slT_fine _ _ _ _ _) (Own.nil _ _ _ _) (fun g hg => by cases hg)
  have ht8 := (ht5'.trans ht6).trans ht7
  have HGR := hide hgR
  generalize hgRe : w3.heap.size = gR at *
  generalize hb13 : w4.heap.size = b13 at *
  have HL1 := hide (show L1 w b7 b11 b13 gH gR n (.func (.func 21) #[] #[.pointer (some ⟨b4, 0, none⟩)]) (.pointer (some ⟨gk, k * 4, none⟩)) 0 (w4.alloc (.cells #[.slice (some ⟨gR, 0, none⟩) n n] 23)) from
    ⟨tag7, Bag.congr hb7x (fun i => by rw [upN_zero]; match i with | 0 | 1 | 2 | 3 | 4 | 5 | 6 | 7 => rfl | k + 8 => rfl), ht8⟩)
  clear hb5 ht5 ht5' hb6 ht6 hb7x ht7 ht8 HB3 HT3 HB4 HT4 c11 ckey HT2 hgR
  generalize w4.alloc (.cells #[.slice (some ⟨gR, 0, none⟩) n n] 23) = w5 at *
  have c13 : w5.cell? ⟨b13, 0, none⟩ = some (.slice (some ⟨gR, 0, none⟩) n n) := by
    obtain ⟨tag, hb, _⟩ := HL1.out
    exact Blk.cell (hb.say 5) 0
  go_wp2_with fail
  go_loopw [46] (fun t wq => ∃ c : Nat, c ≤ n ∧ t = .int .i64 (c : Int) ∧ L1 w b7 b11 b13 gH gR n (.func (.func 21) #[] #[.pointer (some ⟨b4, 0, none⟩)]) (.pointer (some ⟨gk, k * 4, none⟩)) c wq) (fun t _ => n - (intOf t).toNat)
  case atStart => exact ⟨0, Nat.zero_le _, rfl, HL1.out⟩
  case round =>
    clear HL1 c13
    obtain ⟨c, hc, rfl, tag, hb, ht⟩ := hrel
    have c13 : wr.cell? ⟨b13, 0, none⟩ = some (.slice (some ⟨gR, 0, none⟩) n n) := Blk.cell (hb.say 5) 0
    by_cases hlt : c < n
    · obtain ⟨y, hy, cR⟩ := Own.cell (hb.say 4) (i := c) (by rw [castN_len, upN_len]; exact hlt)
      have zR : wr.frozen? ⟨gR, c, none⟩ = false := Own.frozen (hb.say 4) c
      have ho := Own.set (hb.say 4) c (c : Int)
      rw [upN_step hlt] at ho
      obtain ⟨tag', hb', ht'⟩ := putH4 hb ((Tch.refl (fun x => x = gR) wr).setCell (p := ⟨gR, c, none⟩) (.inl rfl) (.int .i32 (c : Int))) ho
      have HS := hide (show L1 w b7 b11 b13 gH gR n (.func (.func 21) #[] #[.pointer (some ⟨b4, 0, none⟩)]) (.pointer (some ⟨gk, k * 4, none⟩)) (c + 1) (wr.setCell ⟨gR, c, none⟩ (.int .i32 (c : Int))) from ⟨tag', hb', ht.trans ht'⟩)
      clear hb ht hb' ht' ho hy
      have e2 : (c : Int) < (n : Int) := by omega
      go_wp2_with fail
      go_roundw
      case rel => exact ⟨c + 1, by omega, by go_num, HS.out⟩
      case measure => simp [intOf]; omega
    · obtain rfl : c = n := by omega
      rw [upN_end] at hb
      have HB := hide hb
      have HT := hide ht
      have HSO := hide (sort_any w wr w.heap.size b4 grp gpo nn b7 b11 b13 gk (k * 4) gR c c aw cw ws (Cm.TB.toNon ht) HGR.out HL.out hnn (by omega) (Blk.cell (hb.say 1) 0) (Blk.cell (hb.say 2) 0) c13
        (fun e => by subst e; exact hb.apart (i := 1) (j := 4) (by decide) (g := b7) rfl rfl) (fun e => by subst e; exact hb.apart (i := 2) (j := 4) (by decide) (g := b11) rfl rfl) (fun e => by subst e; exact hb.apart (i := 5) (j := 4) (by decide) (g := b13) rfl rfl)
        HCK.out HSRC.out HRG.out hwl' (hb.say 4))
      clear hb ht
      go_upto_region 10 with (first | (go_at_call 24; refine HSO.out.mono ?_; rintro e w6 ⟨rfl, tso, l', oso, lso, rso⟩; obtain ⟨tag6, hb6, ht6⟩ := putH4 HB.out tso oso; have HB6 := hide hb6; have HT6 := hide (HT.out.trans ht6); have HRS := hide rso; have HLS := hide lso; clear hb6 ht6 tso oso lso rso) | fail)
      have HL2 := hide (show L2 w b7 b11 b13 gH gR c (.func (.func 21) #[] #[.pointer (some ⟨b4, 0, none⟩)]) (.pointer (some ⟨gk, k * 4, none⟩)) l' ws pt 0 (.slice none 0 0) (.slice none 0 0) w6 from ⟨tag6, none, 0, 0, none, 0, 0, [], [], rfl, rfl, HB6.out, HT6.out, by simp, by simp, by simp⟩)
      have c13' : w6.cell? ⟨b13, 0, none⟩ = some (.slice (some ⟨gR, 0, none⟩) c c) := Blk.cell (HB6.out.say 5) 0
      clear HB6 HT6 HSO HB HT c13
      go_wp2_with fail
      go_loopw [61, 15, 16, 17, 18] (fun t v15 v16 v17 v18 wq => ∃ j : Nat, j ≤ c ∧ t = .int .i64 (j : Int) ∧ v15 = .int .i32 (-1) ∧ v18 = .slice none 0 0 ∧ L2 w b7 b11 b13 gH gR c (.func (.func 21) #[] #[.pointer (some ⟨b4, 0, none⟩)]) (.pointer (some ⟨gk, k * 4, none⟩)) l' ws pt j v16 v17 wq) (fun t _ _ _ _ _ => c - (intOf t).toNat)
      case atStart => exact ⟨0, Nat.zero_le _, rfl, rfl, rfl, HL2.out⟩
      case round =>
        clear HL2 c13'
        obtain ⟨j, hj, rfl, rfl, rfl, tag, a6, n6, c6', a7, n7, c7', l6, run, rfl, rfl, hb, ht, hl6, hl7, hrun⟩ := hrel
        have HB := hide hb
        have HT := hide ht
        have HRUN := hide hrun
        have hsz := ht.tch.size
        clear hb ht hrun
        by_cases hlt2 : j < c
        · obtain ⟨ps, hps⟩ : ∃ x, l'[j]? = some x := ⟨l'[j]'(by rw [HLS.out]; exact hlt2), List.getElem?_eq_getElem _⟩
          have hpc := HRS.out ps (List.mem_of_getElem? hps)
          have cR : wr.cell? ⟨gR, j, none⟩ = some (.int .i32 (ps : Int)) := Own.at (HB.out.say 4) (castN_get hps)
          obtain ⟨x, hx⟩ : ∃ x, ws[ps]? = some x := ⟨ws[ps]'(by omega), List.getElem?_eq_getElem _⟩
          have hxn := HRG.out x (List.mem_of_getElem? hx)
          obtain ⟨gw, ow, rfl, cx0⟩ := Src.at' HSRC.out (castN_get hx)
          obtain ⟨bp, hbp⟩ : ∃ b, pt[x]? = some b := ⟨pt[x]'(by rw [HP.out.len]; exact hxn), List.getElem?_eq_getElem _⟩
          have hop := HOP.out.at_ x true (by rw [List.getElem?_replicate, if_pos hxn])
          have hcp := HP.out.at_ x bp hbp
          have c11 : wr.cell? ⟨b11, 0, none⟩ = some (.pointer (some ⟨gk, k * 4, none⟩)) := Blk.cell (HB.out.say 2) 0
          have HN := hide (Cm.TB.toNon HT.out)
          have ckey : wr.cell? ⟨gk, k * 4 + 1, none⟩ = some (.slice (some ⟨gw, ow, none⟩) c cw) := HN.out.cell HCK.out (fun h => h)
          have cx : wr.cell? ⟨gw, ow + ps, none⟩ = some (.int .i32 (x : Int)) := HN.out.cell cx0 (fun h => h)
          have cp : wr.cell? ⟨gp, x, none⟩ = some (.bool bp) := HN.out.cell hcp (fun h => h)
          have co : wr.cell? ⟨gop, x, none⟩ = some (.bool true) := HN.out.cell hop (fun h => h)
          have HCP := hide hcp
          have HCO := hide hop
          have HX := hide hx
          have HBP := hide hbp
          clear hps hx hbp hcp hop cx0
          have e3 : (j : Int) < (c : Int) := by omega
          have e4 : (ps : Int) < (c : Int) := by omega
          have e5 : (x : Int) < (nn : Int) := by omega
          cases bp with
          | true =>
            go_upto_region 27 with (first
              | (at_builtin; go_must (refine wpList_app (v := .slice a6 n6 c6') _ rfl (.tmp 116) (.tmp 118) .i32 21 23 rfl i0 4 (by decide) Yba.underlying23 hi0 hz0 hz1 hz2 rfl (Own.alloc (HB.out.say 6) _) rfl (Src.one .i32 21 wr (ps : Int) 1) (by simp only [List.length_cons, List.length_nil]; omega) (by simp only [World.size_alloc]; omega) ?_; intro v' w7 ho tt hf; obtain ⟨a8, n8, c8, hv'⟩ := ho.slice; subst hv'; obtain ⟨tag8, hb8, ht8⟩ := putH6 (HB.out.keep ((Tch.refl Non wr).alloc _)) tt ho hf; have HB8 := hide hb8; have HT8 := hide (HT.out.trans ((TB.keep ((Tch.refl Non wr).alloc _)).trans ht8)); clear hb8 ht8 ho tt hf))
              | fail)
            clear HB HT HN c11 ckey cx cp co cR
            have HJ := hide (show L2 w b7 b11 b13 gH gR c (.func (.func 21) #[] #[.pointer (some ⟨b4, 0, none⟩)]) (.pointer (some ⟨gk, k * 4, none⟩)) l' ws pt (j + 1) (.slice a8 n8 c8) (.slice a7 n7 c7') w7 from
              ⟨tag8, a8, n8, c8, a7, n7, c7', _, run, rfl, rfl, HB8.out, HT8.out, by simp; omega, by omega, HRUN.out⟩)
            have cp : w7.cell? ⟨gp, x, none⟩ = some (.bool true) := (Cm.TB.toNon HT8.out).cell HCP.out (fun h => h)
            have co : w7.cell? ⟨gop, x, none⟩ = some (.bool true) := (Cm.TB.toNon HT8.out).cell HCO.out (fun h => h)
            clear HB8 HT8
            go_wp2_with fail
            go_roundw
            case rel => exact ⟨j + 1, by omega, by go_num, rfl, rfl, HJ.out⟩
            case measure => simp [intOf]; omega
          | false =>
            go_upto_region 27 with (first
              | (at_builtin; go_must (refine wpList_app (v := .slice a6 n6 c6') _ rfl (.tmp 116) (.tmp 118) .i32 21 23 rfl i0 4 (by decide) Yba.underlying23 hi0 hz0 hz1 hz2 rfl (Own.alloc (HB.out.say 6) _) rfl (Src.one .i32 21 wr (ps : Int) 1) (by simp only [List.length_cons, List.length_nil]; omega) (by simp only [World.size_alloc]; omega) ?_; intro v' w7 ho tt hf; obtain ⟨a8, n8, c8, hv'⟩ := ho.slice; subst hv'; obtain ⟨tag8, hb8, ht8⟩ := putH6 (HB.out.keep ((Tch.refl Non wr).alloc _)) tt ho hf; have HB8 := hide hb8; have HT8 := hide (HT.out.trans ((TB.keep ((Tch.refl Non wr).alloc _)).trans ht8)); clear hb8 ht8 ho tt hf))
              | fail)
            clear HB HT HN c11 ckey cx cp co cR
            have cp : w7.cell? ⟨gp, x, none⟩ = some (.bool false) := (Cm.TB.toNon HT8.out).cell HCP.out (fun h => h)
            go_upto_region 28 with fail
            go_cut [151] (fun v wx => v = .bool false ∧ Tch Non w7 wx)
            case first =>
              cases run with
              | nil =>
                have hn7 : n7 = 0 := by
                  have := (show Own .i32 21 w7 w.heap.size (.slice a7 n7 c7') [] from HB8.out.say 7).len
                  exact this.symm
                subst hn7
                go_quiet (fail)
                go_wp2_with fail
                go_meet
                case rel => exact ⟨rfl, ⟨rfl, rfl, rfl, Nat.le_refl _, fun _ _ _ => rfl⟩⟩
              | cons r0 rest =>
                have o7 : Own .i32 21 w7 w.heap.size (.slice a7 n7 c7') (castN (r0 :: rest)) := HB8.out.say 7
                have hn7 : n7 = rest.length + 1 := by
                  have := o7.len
                  rw [castN_len] at this
                  exact this.symm
                obtain ⟨g7, e7⟩ : ∃ g7, a7 = some ⟨g7, 0, none⟩ := by
                  rcases o7.form with ⟨e, _⟩ | ⟨g, cap, e, _⟩
                  · cases e; omega
                  · injection e with e1; exact ⟨g, e1⟩
                subst e7
                obtain ⟨hr0, x0, hx0, hb0⟩ := HRUN.out r0 (by simp)
                obtain ⟨gw', ow', e', cx0⟩ := Src.at' HSRC.out (castN_get hx0)
                cases e'
                have c70 : w7.cell? ⟨g7, 0, none⟩ = some (.int .i32 (r0 : Int)) := o7.at (castN_get (l := r0 :: rest) (i := 0) rfl)
                have hx0n := HRG.out x0 (List.mem_of_getElem? hx0)
                have c11 : w7.cell? ⟨b11, 0, none⟩ = some (.pointer (some ⟨gk, k * 4, none⟩)) := Blk.cell (HB8.out.say 2) 0
                have ckey : w7.cell? ⟨gk, k * 4 + 1, none⟩ = some (.slice (some ⟨gw, ow, none⟩) c cw) := (Cm.TB.toNon HT8.out).cell HCK.out (fun h => h)
                have cx : w7.cell? ⟨gw, ow + r0, none⟩ = some (.int .i32 (x0 : Int)) := (Cm.TB.toNon HT8.out).cell cx0 (fun h => h)
                have cp0 : w7.cell? ⟨gp, x0, none⟩ = some (.bool false) := (Cm.TB.toNon HT8.out).cell (HP.out.at_ x0 false hb0) (fun h => h)
                have e6 : (r0 : Int) < (c : Int) := by omega
                have e7 : (x0 : Int) < (nn : Int) := by omega
                clear o7 hx0 hb0 cx0
                generalize rest.length = rl at hn7
                subst hn7
                have e8 : decide (0 < rl + 1) = true := by simp
                go_quiet (fail)
                go_wp2_with fail
                go_meet
                case rel => exact ⟨rfl, ⟨rfl, rfl, rfl, Nat.le_refl _, fun _ _ _ => rfl⟩⟩
            case rest =>
              obtain ⟨rfl, tn⟩ := hcut
              have HB9 := hide (HB8.out.keep tn)
              have HT9 := hide (HT8.out.trans (TB.keep tn))
              have hsz9 := HT9.out.tch.size
              clear tn HB8 HT8 cp
              generalize wc = w9 at *
              go_wp2_with fail
              go_loopw [155] (fun v wq => v = .int .i64 0 ∧ wq = w9) (fun _ _ => 0)
              case atStart => exact ⟨rfl, rfl⟩
              case round =>
                obtain ⟨rfl, hwr⟩ := hrel
                subst hwr
                generalize wr = w9 at *
                go_upto_region 36 with (first
                  | (at_builtin; go_must (refine wpList_app (v := .slice a7 n7 c7') _ rfl (.tmp 170) (.tmp 172) .i32 21 23 rfl i0 4 (by decide) Yba.underlying23 hi0 hz0 hz1 hz2 rfl (Own.alloc (HB9.out.say 7) _) rfl (Src.one .i32 21 w9 (ps : Int) 1) (by rw [castN_len]; simp only [List.length_cons, List.length_nil]; omega) (by simp only [World.size_alloc]; omega) ?_; intro v' wz ho tt hf; obtain ⟨az, nz, cz, hv'⟩ := ho.slice; subst hv'; obtain ⟨tagz, hbz, htz⟩ := putH7 (HB9.out.keep ((Tch.refl Non w9).alloc _)) tt ho hf; have HJ := hide (show L2 w b7 b11 b13 gH gR c (.func (.func 21) #[] #[.pointer (some ⟨b4, 0, none⟩)]) (.pointer (some ⟨gk, k * 4, none⟩)) l' ws pt (j + 1) (.slice a8 n8 c8) (.slice az nz cz) wz from ⟨tagz, a8, n8, c8, az, nz, cz, _, run ++ [ps], rfl, rfl, (by rw [castN_snoc]; exact hbz), HT9.out.trans ((TB.keep ((Tch.refl Non w9).alloc _)).trans htz), (by simp; omega), (by simp; omega), (fun r hr => by rcases List.mem_append.1 hr with h | h; exact HRUN.out r h; (have e : r = ps := (by simpa using h)); subst e; exact ⟨hpc, x, HX.out, HBP.out⟩)⟩); clear hbz htz ho tt hf))
                  | fail)
                go_wp2_with fail
                go_roundw
                case rel => exact ⟨j + 1, by omega, by go_num, rfl, rfl, HJ.out⟩
                case measure => simp [intOf]; omega
        · obtain rfl : j = c := by omega
          go_wp2_with fail
          go_ret
          exact ⟨gH, rfl, fun i hi => hdT_at (HB.out.say 3) hi, Cm.TB.toNon HT.out⟩
end Go.Proofs.Ybulkaxc.Hh
