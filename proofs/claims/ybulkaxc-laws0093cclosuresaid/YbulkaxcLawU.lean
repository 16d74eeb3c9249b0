/-
  LawS0093CClosure (4), by contract.
-/
import Derived.Test.YbulkaxcLawV
import Derived.Test.YbulkaxcLoop3
namespace Go.Proofs.Ybulkaxc.Law
open Go Go.RowKit Go.Proofs.Ybulkaxc.M2 Go.Proofs.Ybulkaxc.Cm Go.Proofs.Ybulkaxc.Kn Go.Proofs.Ybulkaxc.Hb Go.Proofs.Ybulkaxc.Pl2 Go.Proofs.Ybulkaxc.Tj Go.Proofs.Ybulkaxc.Hc Go.Proofs.Ybulkaxc.Mx Go.Proofs.Ybulkaxc.Cut2
set_option linter.unusedVariables false
set_option linter.unusedSimpArgs false

/-- The tails and the heads at hand. -/
def U2 (B : Nat) (v1 : Value) (l1 : List Int) (v2 : Value) (l2 : List Int) : Nat → Thing
  | 1 => slT .i32 21 B v1 l1
  | 2 => slT .i32 21 B v2 l2
  | _ => noT
theorem U2_fine (B : Nat) (v1 : Value) (l1 : List Int) (v2 : Value) (l2 : List Int) (i : Nat) : (U2 B v1 l1 v2 l2 i).Fine := by
  match i with
  | 0 => exact noT_fine
  | 1 => exact slT_fine _ _ _ _ _
  | 2 => exact slT_fine _ _ _ _ _
  | k + 3 => exact noT_fine
section
variable {w w' : World} {tag : Nat → Nat} {B : Nat} {v1 v2 : Value} {l1 l2 : List Int}
theorem U2.put1 (h : Bag w tag (U2 B v1 l1 v2 l2)) {v : Value} {l : List Int} (t : Tch (fun x => v1.ownBlock = some x) w w') (ho : Own .i32 21 w' B v l) (hf : Fr w v1 v) : ∃ tag', Bag w' tag' (U2 B v l v2 l2) ∧ TB tag w tag' w' := by
  obtain ⟨tag', h1, h2⟩ := h.put 1 (by decide) t _ (U2_fine B v l v2 l2 1) ho hf
  exact ⟨tag', Bag.congr h1 (fun i => by match i with | 0 | 1 | 2 => rfl | k + 3 => rfl), h2⟩
theorem U2.put2 (h : Bag w tag (U2 B v1 l1 v2 l2)) {v : Value} {l : List Int} (t : Tch (fun x => v2.ownBlock = some x) w w') (ho : Own .i32 21 w' B v l) (hf : Fr w v2 v) : ∃ tag', Bag w' tag' (U2 B v1 l1 v l) ∧ TB tag w tag' w' := by
  obtain ⟨tag', h1, h2⟩ := h.put 2 (by decide) t _ (U2_fine B v1 l1 v l 2) ho hf
  exact ⟨tag', Bag.congr h1 (fun i => by match i with | 0 | 1 | 2 => rfl | k + 3 => rfl), h2⟩
end
/-- The first j arcs. -/
def arcsOf (nn : Nat) (b : List Nat) (j : Nat) : List (Nat × Nat) := (List.range j).map (fun i => (b.getD (2 * i) 0 % nn, b.getD (2 * i + 1) 0 % nn))
theorem arcsOf_snoc (nn : Nat) (b : List Nat) (j : Nat) : arcsOf nn b (j + 1) = arcsOf nn b j ++ [(b.getD (2 * j) 0 % nn, b.getD (2 * j + 1) 0 % nn)] := by
  unfold arcsOf
  rw [List.range_succ, List.map_append]
  rfl
theorem arcsOf_len (nn : Nat) (b : List Nat) (j : Nat) : (arcsOf nn b j).length = j := by simp [arcsOf]
theorem arcsOf_lt {nn : Nat} {b : List Nat} {j x y : Nat} (hn : 0 < nn) (h : (x, y) ∈ arcsOf nn b j) : x < nn ∧ y < nn := by
  unfold arcsOf at h
  rw [List.mem_map] at h
  obtain ⟨i, _, e⟩ := h
  cases e
  exact ⟨Nat.mod_lt _ hn, Nat.mod_lt _ hn⟩

set_option maxRecDepth 100000 in
set_option maxHeartbeats 8000000 in
theorem law_any (w : World) (a0 n1 n2 n3 : Nat) (a1 a2 a3 : Option Addr) (c1 c2 c3 : Nat) (b1 : List Nat) (kb : List (List Nat)) (pa : List Bool) (h0 : a0 ≤ 255) (h1 : Src .u8 w (.slice a1 n1 c1) (castN b1)) (hl1 : b1.length = n1) (hb1 : ∀ y ∈ b1, y ≤ 255)
    (hKS : Ksrc w (.slice a2 n2 c2) kb) (hkb : ∀ l ∈ kb, l.length ≤ maxLen ∧ ∀ y ∈ l, y ≤ 255) (hB3 : Bsrc w (.slice a3 n3 c3) pa) (hm1 : n1 ≤ maxLen) (hm2 : n2 ≤ maxLen) (hm3 : n3 ≤ maxLen) :
    Calls Yba.prog 4 #[.int .u8 (a0 : Int), .slice a1 n1 c1, .slice a2 n2 c2, .slice a3 n3 c3] w fun e w' => e = .returned (.bool true) ∧ Below w.heap.size w w' := by
  have H1 := hide h1
  have HB1 := hide hb1
  have HKS := hide hKS
  have HKB := hide hkb
  have HB3 := hide hB3
  have HL1 := hide hl1
  clear h1 hb1 hKS hkb hB3 hl1
  unfold maxLen at hm1 hm2 hm3
  obtain ⟨i0, hi0, hz0, hz1, hz2⟩ := info_parts Cm.info21
  by_cases hbig : n1 ≤ 512 ∧ n2 ≤ 64
  · obtain ⟨hn1, hn2⟩ := hbig
    have e1 : decide ((n1 : Int) > 512) = false := by simp; omega
    have e1' : decide (512 < (n1 : Int)) = false := by simp; omega
    have e2 : decide ((n2 : Int) > 64) = false := by simp; omega
    have e2' : decide (64 < (n2 : Int)) = false := by simp; omega
    go_enter Yba.func4, Yba.ntmps4
    go_upto_region 3 with fail
    rename_i K1 h1 K2 h2
    refine loop3 _ _ _ _ _ _ _ _ _ _ _ _ _ _ _ _ _ _ _ _ _ _ _ _ _ _ _ _ _ _ _ _ _ _ _ _ _ _ _ _ _ _ _ _ _ _ _ _ _ _ _ _ _ _ _ _ _ _ _ _ _ _ _ _ _ _ _ _ _ _ _ _ _ _ _ _ _ _ _ _ _ _ _ _ _ _ _ _ _ _ _ _ _ _ _ _ _ _ _ _ _ _ _ _ _ _ _ _ _ _ _ _ _ _ _ _ _ _ _ _ _ _ _ _ _ _ _ _ _ _ _ _ _ _ _ _ _ _ _ _ _ _ _ _ _ _ _ _ _ _ _ _ _ _ _ _ _ _ _ _ _ _ _ _ _ _ _ _ _ _ _ _ _ _ _ _ _ _ _ _ _ _ _ _ _ _ _ _ _ _ _ _ _ _ _ _ _ _ _ _ _ _ _ _ _ _ _ _ _ _ _ _ _ _ _ _ _ _ _ _ _ _ _ _ _ _ _ _ _ _ _ _ _ _ _ _ _ _ _ _ _ _ _ _ _ _ _ _ _ _ _ _ _ _ _ _ _ _ _ _ _ _ _ _ _ _ _ _ _ _ _ _ _ _ _ _ _ _ _ _ _ _ _ _ _ _ _ _ _ _ _ _ _ _ _ _ _ _ _ _ _ _ _ _ _ _ _ _ _ _ _ _ _ _ _ _ _ _ _ _ _ _ _ _ _ _ _ _ _ _ _ _ _ _ _ _ _ _ _ _ _ _ _ _ _ _ _ _ _ _ _ _ _ _ _ _ _ _ _ _ _ _ _ _ _ _ _ _ _ _ _ _ _ _ _ _ _ _ _ _ _ _ _ _ _ _ _ _ _ _ _ _ _ _ _ _ _ _ _ _ _ _ _ _ _ _ _ _ _ _ _ _ _ _ _ _ _ _ _ _ _ _ _ _ _ _ _ _ _ _ _ _ _ _ _ _ _ _ _ _ _ _ _ _ w n2 a2 c2 kb HKS.out hn2 (fun l hl => (HKB.out l hl).1) K1 K2 h2 ?_
    intro y3_9 y3_63 y3_64 y3_65 y3_66 y3_67 y3_68 y3_69 y3_70 y3_71 y3_72 y3_73 y3_74 hk64
    have HK64 := hide (show ∀ l ∈ kb, l.length ≤ 64 ∧ ∀ y ∈ l, y ≤ 255 from fun l hl => ⟨hk64 l hl, (HKB.out l hl).2⟩)
    clear hk64 e1 e1' e2 e2'
    refine h1 _ _ ?_
    clear h1 h2 K1 K2
    obtain ⟨nn, hnnd⟩ : ∃ nn, nn = a0 % 17 := ⟨_, rfl⟩
    have hnn : nn ≤ 16 := by omega
    have hr1 : Int.tmod (a0 : Int) 17 = (nn : Int) := by rw [hnnd]; rfl
    have hr2 : (a0 : Int) % 17 = (nn : Int) := by rw [hnnd]; rfl
    clear hnnd
    by_cases hn0 : nn = 0
    · subst hn0
      go_upto_region 17 with fail
      rename_i K1 h1
      exact segV _ _ _ _ _ _ _ _ _ _ _ _ _ _ _ _ _ _ _ _ _ _ _ _ _ _ _ _ _ _ _ _ _ _ _ _ _ _ _ _ _ _ _ _ _ _ _ _ _ _ _ _ _ _ _ _ _ _ _ _ _ _ _ _ _ _ _ _ _ _ _ _ _ _ _ _ _ _ _ _ _ _ _ _ _ _ _ _ _ _ _ _ _ _ _ _ _ _ _ _ _ _ _ _ _ _ _ _ _ _ _ _ _ _ _ _ _ _ _ _ _ _ _ _ _ _ _ _ _ _ _ _ _ _ _ _ _ _ _ _ _ _ _ _ _ _ _ _ _ _ _ _ _ _ _ _ _ _ _ _ _ _ _ _ _ _ _ _ _ _ _ _ _ _ _ _ _ _ _ _ _ _ _ _ _ _ _ _ _ _ _ _ _ _ _ _ _ _ _ _ _ _ _ _ _ _ _ _ _ _ _ _ _ _ _ _ _ _ _ _ _ _ _ _ _ _ _ _ _ _ _ _ _ _ _ _ _ _ _ _ _ _ _ _ _ _ _ _ _ _ _ _ _ _ _ _ _ _ _ _ _ _ _ _ _ _ _ _ _ _ _ _ _ _ _ _ _ _ _ _ _ _ _ _ _ _ _ _ _ _ _ _ _ _ _ _ _ _ _ _ _ _ _ _ _ _ _ _ _ _ _ _ _ _ _ _ _ _ _ _ _ _ _ _ _ _ _ _ _ _ _ _ _ _ _ _ _ _ _ _ _ _ _ _ _ _ _ _ _ _ _ _ _ _ _ _ _ _ _ _ _ _ _ _ _ _ _ _ _ _ _ _ _ _ _ _ _ _ _ _ _ _ _ _ _ _ _ _ _ _ _ _ _ _ _ _ _ _ _ _ _ _ _ _ _ _ _ _ _ _ _ _ _ _ _ _ _ _ _ _ _ _ _ _ _ _ _ _ _ _ _ _ _ _ _ _ _ _ _ _ w w 0 0 n2 n3 none none a2 a3 0 0 c2 c3 [] kb pa (.inl ⟨rfl, none, 0, rfl, fun _ => rfl⟩) (.inl ⟨rfl, none, 0, rfl, fun _ => rfl⟩) rfl HKS.out HB3.out (fun a b h => by simp at h) (by omega) hn2 HK64.out hm3 (by omega) (Tch.refl _ _) K1 h1
    · have hnp : 0 < nn := by omega
      have e3 : decide ((nn : Int) > 0) = true := by simp; omega
      have e3' : decide (0 < (nn : Int)) = true := by simp; omega
      have hnz : ¬ ((nn : Int) = 0) := by omega
      have HJ0 := hide (show ∃ tag a4 n4 c4 a5 n5 c5, Value.slice none 0 0 = .slice a4 n4 c4 ∧ Value.slice none 0 0 = .slice a5 n5 c5 ∧ Bag w tag (U2 w.heap.size (.slice a4 n4 c4) (castN ((arcsOf nn b1 0).map Prod.fst)) (.slice a5 n5 c5) (castN ((arcsOf nn b1 0).map Prod.snd))) ∧ TB (fun _ => 0) w tag w from ⟨fun _ => 0, none, 0, 0, none, 0, 0, rfl, rfl, ⟨fun i => U2_fine _ _ _ _ _ i, fun i => by
        match i with
        | 0 => trivial
        | 1 => exact Own.nil _ _ _ _
        | 2 => exact Own.nil _ _ _ _
        | k + 3 => trivial, fun i g hg => by
        match i, hg with
        | 0, hg => cases hg
        | 1, hg => cases hg
        | 2, hg => cases hg
        | k + 3, hg => cases hg⟩, TB.refl _ _⟩)
      go_wp2_with fail
      go_loopw [13, 11, 12] (fun t v11 v12 wq => ∃ j : Nat, 2 * j ≤ n1 + 1 ∧ t = .int .i64 (2 * (j : Int)) ∧ ∃ tag a4 n4 c4 a5 n5 c5, v11 = .slice a4 n4 c4 ∧ v12 = .slice a5 n5 c5 ∧ Bag wq tag (U2 w.heap.size (.slice a4 n4 c4) (castN ((arcsOf nn b1 j).map Prod.fst)) (.slice a5 n5 c5) (castN ((arcsOf nn b1 j).map Prod.snd))) ∧ TB (fun _ => 0) w tag wq) (fun t _ _ _ => n1 + 2 - (intOf t).toNat)
      case atStart => exact ⟨0, by omega, rfl, HJ0.out⟩
      case round =>
        clear HJ0
        obtain ⟨j, hj, rfl, tag, a4, n4, c4, a5, n5, c5, rfl, rfl, hb, ht⟩ := hrel
        have HB := hide hb
        have HT := hide ht
        have hsz := ht.tch.size
        clear hb ht
        have hal := arcsOf_len nn b1 j
        by_cases hlt : 2 * j + 1 < n1
        · obtain ⟨y, hy⟩ : ∃ y, b1[2 * j]? = some y := ⟨b1[2 * j]'(by rw [HL1.out]; omega), List.getElem?_eq_getElem _⟩
          obtain ⟨z, hz⟩ : ∃ z, b1[2 * j + 1]? = some z := ⟨b1[2 * j + 1]'(by rw [HL1.out]; omega), List.getElem?_eq_getElem _⟩
          have hy255 := HB1.out y (List.mem_of_getElem? hy)
          have hz255 := HB1.out z (List.mem_of_getElem? hz)
          obtain ⟨g1, o1, rfl, cy0⟩ := Src.at' H1.out (castN_get hy)
          obtain ⟨g1', o1', e', cz0⟩ := Src.at' H1.out (castN_get hz)
          cases e'
          have cy := (Cm.TB.toNon HT.out).cell cy0 (fun h => h)
          have hsn := arcsOf_snoc nn b1 j
          rw [show b1.getD (2 * j) 0 = y by rw [List.getD_eq_getElem?_getD, hy]; rfl, show b1.getD (2 * j + 1) 0 = z by rw [List.getD_eq_getElem?_getD, hz]; rfl] at hsn
          obtain ⟨p, hp⟩ : ∃ p, p = y % nn := ⟨_, rfl⟩
          obtain ⟨q, hq⟩ : ∃ q, q = z % nn := ⟨_, rfl⟩
          rw [← hp, ← hq] at hsn
          have q1 : Int.tmod (y : Int) (nn : Int) = (p : Int) := by rw [hp]; rfl
          have q2 : (y : Int) % (nn : Int) = (p : Int) := by rw [hp]; rfl
          have q3 : Int.tmod (z : Int) (nn : Int) = (q : Int) := by rw [hq]; rfl
          have q4 : (z : Int) % (nn : Int) = (q : Int) := by rw [hq]; rfl
          have hpn : p < nn := by rw [hp]; exact Nat.mod_lt _ hnp
          have hqn : q < nn := by rw [hq]; exact Nat.mod_lt _ hnp
          have HSN := hide hsn
          have HCZ := hide cz0
          clear hy hz cy0 cz0 hsn hp hq
          have e4 : 2 * (j : Int) + 1 < (n1 : Int) := by omega
          have e5 : 2 * (j : Int) < (n1 : Int) := by omega
          go_upto_region 16 with (first
            | (at_builtin; go_must (refine wpList_app (v := .slice a4 n4 c4) _ rfl (.tmp 87) (.tmp 96) .i32 21 23 rfl i0 4 (by decide) Yba.underlying23 hi0 hz0 hz1 hz2 rfl (Own.alloc (HB.out.say 1) _) rfl (Src.one .i32 21 wr (p : Int) 1) (by rw [castN_len, List.length_map]; simp only [List.length_cons, List.length_nil]; omega) (by simp only [World.size_alloc]; omega) ?_; intro v' w5 ho tt hf; obtain ⟨a6, n6, c6, hv'⟩ := ho.slice; subst hv'; obtain ⟨tag5, hb5, ht5⟩ := U2.put1 (HB.out.keep ((Tch.refl Non wr).alloc _)) tt ho hf; have HB5 := hide hb5; have HT5 := hide (HT.out.trans ((TB.keep ((Tch.refl Non wr).alloc _)).trans ht5)); clear hb5 ht5 ho tt hf; simp only [Act.put, List.setIfInBounds_toArray, List.set_cons_zero, List.set_cons_succ]))
            | fail)
          clear HB HT cy
          have hsz5 := HT5.out.tch.size
          have cz := (Cm.TB.toNon HT5.out).cell HCZ.out (fun h => h)
          go_upto_region 14 with (first
            | (at_builtin; go_must (refine wpList_app (v := .slice a5 n5 c5) _ rfl (.tmp 98) (.tmp 108) .i32 21 23 rfl i0 4 (by decide) Yba.underlying23 hi0 hz0 hz1 hz2 rfl (Own.alloc (HB5.out.say 2) _) rfl (Src.one .i32 21 w5 (q : Int) 1) (by rw [castN_len, List.length_map]; simp only [List.length_cons, List.length_nil]; omega) (by simp only [World.size_alloc]; omega) ?_; intro v' w6 ho tt hf; obtain ⟨a7, n7, c7, hv'⟩ := ho.slice; subst hv'; obtain ⟨tag6, hb6, ht6⟩ := U2.put2 (HB5.out.keep ((Tch.refl Non w5).alloc _)) tt ho hf; have HJ := hide (show Bag w6 tag6 (U2 w.heap.size (.slice a6 n6 c6) (castN ((arcsOf nn b1 (j + 1)).map Prod.fst)) (.slice a7 n7 c7) (castN ((arcsOf nn b1 (j + 1)).map Prod.snd))) from (by rw [HSN.out, List.map_append, List.map_append]; unfold castN; rw [List.map_append, List.map_append]; exact hb6)); have HT6 := hide (HT5.out.trans ((TB.keep ((Tch.refl Non w5).alloc _)).trans ht6)); clear hb6 ht6 ho tt hf; simp only [Act.put, List.setIfInBounds_toArray, List.set_cons_zero, List.set_cons_succ]))
            | fail)
          go_wp2_with fail
          go_roundw
          case rel => exact ⟨j + 1, by omega, by first | rfl | go_num | (congr 1; omega), tag6, _, _, _, _, _, _, rfl, rfl, HJ.out, HT6.out⟩
          case measure => simp [intOf]; omega
        · have e4 : ¬ (2 * (j : Int) + 1 < (n1 : Int)) := by omega
          have e4' : decide (2 * (j : Int) + 1 < (n1 : Int)) = false := by simp; omega
          have s1 := (show Own .i32 21 wr w.heap.size (.slice a4 n4 c4) (castN ((arcsOf nn b1 j).map Prod.fst)) from HB.out.say 1)
          have s2 := (show Own .i32 21 wr w.heap.size (.slice a5 n5 c5) (castN ((arcsOf nn b1 j).map Prod.snd)) from HB.out.say 2)
          have m1 : n4 = j := by
            have := s1.len
            rw [castN_len, List.length_map, hal] at this
            exact this.symm
          have m2 : n5 = j := by
            have := s2.len
            rw [castN_len, List.length_map, hal] at this
            exact this.symm
          have S1 := hide s1.src
          have S2 := hide s2.src
          have TN := hide (Cm.TB.toNon HT.out)
          clear s1 s2 HB HT
          subst m1
          obtain rfl : n4 = n5 := m2.symm
          go_upto_region 17 with fail
          rename_i K1 h1
          exact segV _ _ _ _ _ _ _ _ _ _ _ _ _ _ _ _ _ _ _ _ _ _ _ _ _ _ _ _ _ _ _ _ _ _ _ _ _ _ _ _ _ _ _ _ _ _ _ _ _ _ _ _ _ _ _ _ _ _ _ _ _ _ _ _ _ _ _ _ _ _ _ _ _ _ _ _ _ _ _ _ _ _ _ _ _ _ _ _ _ _ _ _ _ _ _ _ _ _ _ _ _ _ _ _ _ _ _ _ _ _ _ _ _ _ _ _ _ _ _ _ _ _ _ _ _ _ _ _ _ _ _ _ _ _ _ _ _ _ _ _ _ _ _ _ _ _ _ _ _ _ _ _ _ _ _ _ _ _ _ _ _ _ _ _ _ _ _ _ _ _ _ _ _ _ _ _ _ _ _ _ _ _ _ _ _ _ _ _ _ _ _ _ _ _ _ _ _ _ _ _ _ _ _ _ _ _ _ _ _ _ _ _ _ _ _ _ _ _ _ _ _ _ _ _ _ _ _ _ _ _ _ _ _ _ _ _ _ _ _ _ _ _ _ _ _ _ _ _ _ _ _ _ _ _ _ _ _ _ _ _ _ _ _ _ _ _ _ _ _ _ _ _ _ _ _ _ _ _ _ _ _ _ _ _ _ _ _ _ _ _ _ _ _ _ _ _ _ _ _ _ _ _ _ _ _ _ _ _ _ _ _ _ _ _ _ _ _ _ _ _ _ _ _ _ _ _ _ _ _ _ _ _ _ _ _ _ _ _ _ _ _ _ _ _ _ _ _ _ _ _ _ _ _ _ _ _ _ _ _ _ _ _ _ _ _ _ _ _ _ _ _ _ _ _ _ _ _ _ _ _ _ _ _ _ _ _ _ _ _ _ _ _ _ _ _ _ _ _ _ _ _ _ _ _ _ _ _ _ _ _ _ _ _ _ _ _ _ _ _ _ _ _ _ _ _ _ _ _ _ _ _ _ _ _ _ _ _ _ _ _ w wr nn n4 n2 n3 a4 a5 a2 a3 c4 c5 c2 c3 (arcsOf nn b1 n4) kb pa S1.out S2.out hal (HKS.out.keep TN.out) (HB3.out.keep TN.out) (fun a b h => arcsOf_lt hnp h) hnn hn2 HK64.out hm3 (by omega) TN.out K1 h1
  · go_enter Yba.func4, Yba.ntmps4
    by_cases h512 : n1 ≤ 512
    · have e1 : decide ((n1 : Int) > 512) = false := by simp; omega
      have e1' : decide (512 < (n1 : Int)) = false := by simp; omega
      have e2 : decide ((n2 : Int) > 64) = true := by simp; omega
      have e2' : decide (64 < (n2 : Int)) = true := by simp; omega
      go_wp2_with fail
      go_ret
      exact ⟨rfl, Below.refl _ _⟩
    · have e1 : decide ((n1 : Int) > 512) = true := by simp; omega
      have e1' : decide (512 < (n1 : Int)) = true := by simp; omega
      go_wp2_with fail
      go_ret
      exact ⟨rfl, Below.refl _ _⟩
end Go.Proofs.Ybulkaxc.Law
