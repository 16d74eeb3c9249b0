/-
  keyNodes (15), by contract.
-/
import Derived.Test.YbulkaxcHub
import Derived.Test.YbulkaxcVis2
import Derived.Deep.RegionHeld3
import Derived.Deep.RegionLaw
import Derived.Deep.DeepCutAuto
import Derived.Deep.QuietTactic
import Derived.BigQuiet
import Derived.WalkSpells
namespace Go.Proofs.Ybulkaxc.Kn
open Go Go.RowKit Go.Proofs.Ybulkaxc.M2 Go.Proofs.Ybulkaxc.Cm Go.Proofs.Ybulkaxc.Hb
set_option linter.unusedVariables false

theorem info96 : (Yba.prog.info? 96).map (fun i => (i.zero, i.size, i.bytes)) = some (some (.agg #[.int .i32 0, .int .i32 0]), 2, 8) := by kernel_rfl

/-- The graph: its keys' writers; no kinds. -/
structure Gm (w : World) (gg : Nat) (ak : Option Addr) (nk ck nn : Nat) (ks : List (List Nat)) : Prop where
  kc : w.cell? ⟨gg, 6, none⟩ = some (.slice ak nk ck)
  kn : w.cell? ⟨gg, 1, none⟩ = some (.int .u8 0)
  len : ks.length = nk
  key : ∀ k ws, ks[k]? = some ws → ∃ gk a c, ak = some ⟨gk, 0, none⟩ ∧ w.cell? ⟨gk, k * 4 + 1, none⟩ = some (.slice a ws.length c) ∧ Src .i32 w (.slice a ws.length c) (castN ws)
  rng : ∀ ws ∈ ks, ws.length ≤ 64 ∧ ∀ x ∈ ws, x < nn
theorem Src.keep {k : IntKind} {w w' : World} {v : Value} {l : List Int} (h : Src k w v l) (t : Tch Non w w') : Src k w' v l := by
  rcases h with h | ⟨b, off, cap, hv, h⟩
  · exact .inl h
  · exact .inr ⟨b, off, cap, hv, fun i x hx => t.cell (h i x hx) (fun h => h)⟩
theorem Gm.keep {w w' : World} {gg nk ck nn : Nat} {ak : Option Addr} {ks : List (List Nat)} (h : Gm w gg ak nk ck nn ks) (t : Tch Non w w') : Gm w' gg ak nk ck nn ks :=
  ⟨t.cell h.kc (fun h => h), t.cell h.kn (fun h => h), h.len, fun k ws hk => by
    obtain ⟨gk, a, c, h1, h2, h3⟩ := h.key k ws hk
    exact ⟨gk, a, c, h1, t.cell h2 (fun h => h), Kn.Src.keep h3 t⟩, h.rng⟩
/-- Bools that can be read. -/
structure Pb (w : World) (gp nn : Nat) (pt : List Bool) : Prop where
  len : pt.length = nn
  at_ : ∀ i b, pt[i]? = some b → w.cell? ⟨gp, i, none⟩ = some (.bool b)
theorem Pb.keep {w w' : World} {gp nn : Nat} {pt : List Bool} (h : Pb w gp nn pt) (t : Tch Non w w') : Pb w' gp nn pt :=
  ⟨h.len, fun i b hi => t.cell (h.at_ i b hi) (fun h => h)⟩
theorem Src.at' {k : IntKind} {w : World} {a : Option Addr} {n c : Nat} {l : List Int} (h : Src k w (.slice a n c) l) {i : Nat} {x : Int} (hx : l[i]? = some x) : ∃ b off, a = some ⟨b, off, none⟩ ∧ w.cell? ⟨b, off + i, none⟩ = some (.int k x) := by
  rcases h with ⟨rfl, _⟩ | ⟨b, off, cap, hv, h⟩
  · simp at hx
  · cases hv
    exact ⟨b, off, rfl, h i x hx⟩

theorem Own.cut0 {k : IntKind} {e : TypeId} {w : World} {B : Nat} {a : Option Addr} {n c : Nat} {l : List Int} (h : Own k e w B (.slice a n c) l) : Own k e w B (.slice a 0 c) [] := by
  rcases h.form with ⟨e, _⟩ | ⟨g, cap, e, _⟩
  · cases e; exact Own.nil _ _ _ _
  · cases e
    have := h.cut 0 (Nat.zero_le _)
    simpa using this
theorem castN_get {l : List Nat} {i x : Nat} (h : l[i]? = some x) : (castN l)[i]? = some (x : Int) := by
  unfold castN
  rw [List.getElem?_map, h]
  rfl
theorem own_blk (a : Option Addr) (n n' c c' : Nat) : (Value.slice a n c).ownBlock = (Value.slice a n' c').ownBlock := by cases a <;> rfl
theorem castN_nil : castN [] = [] := rfl

/-- The two rows that keyNodes makes. -/
def K2 (B : Nat) (v10 : Value) (l10 : List Int) (v8 : Value) (l8 : List (Int × Int)) : Nat → Thing
  | 1 => slT .i32 21 B v10 l10
  | 2 => prT 96 B v8 l8
  | _ => noT
theorem K2_fine (B : Nat) (v10 : Value) (l10 : List Int) (v8 : Value) (l8 : List (Int × Int)) (i : Nat) : (K2 B v10 l10 v8 l8 i).Fine := by
  match i with
  | 0 => exact noT_fine
  | 1 => exact slT_fine _ _ _ _ _
  | 2 => exact prT_fine _ _ _ _
  | k + 3 => exact noT_fine
section
variable {w w' : World} {tag : Nat → Nat} {B : Nat} {v10 v8 : Value} {l10 : List Int} {l8 : List (Int × Int)}
theorem K2.put1 (h : Bag w tag (K2 B v10 l10 v8 l8)) {v : Value} {l : List Int} (t : Tch (fun x => v10.ownBlock = some x) w w') (ho : Own .i32 21 w' B v l) (hf : Fr w v10 v) : ∃ tag', Bag w' tag' (K2 B v l v8 l8) ∧ TB tag w tag' w' := by
  obtain ⟨tag', h1, h2⟩ := h.put 1 (by decide) t _ (K2_fine B v l v8 l8 1) ho hf
  refine ⟨tag', Bag.congr h1 (fun i => ?_), h2⟩
  match i with
  | 0 => rfl
  | 1 => rfl
  | 2 => rfl
  | k + 3 => rfl
theorem K2.put2 (h : Bag w tag (K2 B v10 l10 v8 l8)) {v : Value} {l : List (Int × Int)} (t : Tch (fun x => v8.ownBlock = some x) w w') (ho : Own2 96 w' B v l) (hf : Fr w v8 v) : ∃ tag', Bag w' tag' (K2 B v10 l10 v l) ∧ TB tag w tag' w' := by
  obtain ⟨tag', h1, h2⟩ := h.put 2 (by decide) t _ (K2_fine B v10 l10 v l 2) ho hf
  refine ⟨tag', Bag.congr h1 (fun i => ?_), h2⟩
  match i with
  | 0 => rfl
  | 1 => rfl
  | 2 => rfl
  | k + 3 => rfl
end
/-- Behind k keys. -/
def KR (w : World) (l10 : List Int) (l8 : List (Nat × Nat)) (h9 : Nat) (v8 v9 v10 : Value) (wq : World) : Prop :=
  ∃ tag a8 n8 c8 a10 n10 c10, v8 = .slice a8 n8 c8 ∧ v9 = .int .i32 (h9 : Int) ∧ v10 = .slice a10 n10 c10 ∧ Bag wq tag (K2 w.heap.size v10 l10 v8 (castP l8)) ∧ TB (fun _ => 0) w tag wq
theorem KR.mk {w : World} {l10 : List Int} {l8 : List (Nat × Nat)} {h9 : Nat} {a8 : Option Addr} {n8 c8 : Nat} {a10 : Option Addr} {n10 c10 : Nat} {wq : World} {tag : Nat → Nat} (hb : Bag wq tag (K2 w.heap.size (.slice a10 n10 c10) l10 (.slice a8 n8 c8) (castP l8))) (ht : TB (fun _ => 0) w tag wq) :
    KR w l10 l8 h9 (.slice a8 n8 c8) (.int .i32 (h9 : Int)) (.slice a10 n10 c10) wq := ⟨tag, a8, n8, c8, a10, n10, c10, rfl, rfl, rfl, hb, ht⟩
/-- What keyNodes answers. -/
def KRet (w : World) (first : Nat) (hs : List (List Nat)) (e : Ending) (w' : World) : Prop :=
  ∃ a8 n8 c8, e = .returned (.tuple #[.slice a8 n8 c8, .int .i32 ((hs.length : Nat) : Int)]) ∧ Own2 96 w' w.heap.size (.slice a8 n8 c8) (castP (harcs first hs)) ∧ Tch Non w w'

set_option maxRecDepth 10000 in
set_option maxHeartbeats 4000000 in
theorem keyNodes_any (w : World) (gg gp nn : Nat) (ak : Option Addr) (nk ck : Nat) (ks : List (List Nat)) (pt : List Bool) (hg : Gm w gg ak nk ck nn ks) (hp : Pb w gp nn pt) (hnk : nk ≤ 64) (hnn : nn ≤ 100) :
    Calls Yba.prog 15 #[.pointer (some ⟨gg, 0, none⟩), .slice (some ⟨gp, 0, none⟩) nn nn, .int .i32 (nn : Int)] w fun e w' => KRet w nn (hubs pt ks) e w' := by
  have HG := hide hg
  have HP := hide hp
  have c6 := hg.kc
  obtain ⟨i0, hi0, hz0, hz1, hz2⟩ := info_parts info21
  obtain ⟨i1, hi1, hy0, hy1, hy2⟩ := info_parts info96
  have HR0 := hide (show KR w [] (harcs nn (hubs pt (ks.take 0))) (hubs pt (ks.take 0)).length (.slice none 0 0) (.int .i32 0) (.slice none 0 0) w from
    ⟨fun _ => 0, none, 0, 0, none, 0, 0, rfl, rfl, rfl, ⟨fun i => K2_fine _ _ _ _ _ i, fun i => by
      match i with
      | 0 => trivial
      | 1 => exact Own.nil _ _ _ _
      | 2 => exact Own2.nil _ _ _
      | k + 3 => trivial, fun i g hg => by
      match i, hg with
      | 0, hg => cases hg
      | 1, hg => cases hg
      | 2, hg => cases hg
      | k + 3, hg => cases hg⟩, TB.refl _ _⟩)
  clear hg hp
  go_enter Yba.func15, Yba.ntmps15
  go_wp2_with fail
  go_loopw [25, 8, 9, 10] (fun t v8 v9 v10 wq => ∃ k : Nat, k ≤ nk ∧ t = .int .i64 (k : Int) ∧ ∃ l10, KR w l10 (harcs nn (hubs pt (ks.take k))) (hubs pt (ks.take k)).length v8 v9 v10 wq) (fun t _ _ _ _ => nk - (intOf t).toNat)
  case atStart => exact ⟨0, Nat.zero_le _, rfl, [], HR0.out⟩
  case round =>
    clear HR0 c6
    obtain ⟨k, hk, rfl, l10, tag, a8, n8, c8, a10, n10, c10, rfl, rfl, rfl, hb, ht⟩ := hrel
    have HB := hide hb
    have HT := hide ht
    have hhl : (hubs pt (ks.take k)).length ≤ k := by
      have := hubs_len pt (ks.take k)
      rw [List.length_take] at this
      omega
    have hal : (harcs nn (hubs pt (ks.take k))).length ≤ 8192 := by
      have h1 := harcs_len 64 (hubs pt (ks.take k)) nn (fun l hl => by
        obtain ⟨ws, h1, rfl⟩ := hubs_sub hl
        have h2 := inP_len pt ws ws.length
        rw [List.take_length] at h2
        have h3 := (HG.out.rng ws (List.mem_of_mem_take h1)).1
        omega)
      have h2 : 2 * 64 * (hubs pt (ks.take k)).length ≤ 2 * 64 * 64 := Nat.mul_le_mul_left _ (by omega)
      omega
    by_cases hlt : k < nk
    · obtain ⟨ws, hws⟩ : ∃ ws, ks[k]? = some ws := ⟨ks[k]'(by rw [HG.out.len]; exact hlt), List.getElem?_eq_getElem _⟩
      have hrg := HG.out.rng ws (List.mem_of_getElem? hws)
      have HRG := hide hrg.2
      have hwl := hrg.1
      clear hrg
      have HWS := hide hws
      have HNX := hide (fun (v8 v9 v10 : Value) (wq : World) (l10 : List Int) (h : KR w l10 (harcs nn (hubs pt (ks.take k) ++ (if 2 ≤ (inP pt ws).length then [inP pt ws] else []))) (hubs pt (ks.take k) ++ (if 2 ≤ (inP pt ws).length then [inP pt ws] else [])).length v8 v9 v10 wq) =>
        (show ∃ l10, KR w l10 (harcs nn (hubs pt (ks.take (k + 1)))) (hubs pt (ks.take (k + 1))).length v8 v9 v10 wq from ⟨l10, by rw [hubs_snoc hws]; exact h⟩))
      obtain ⟨gk, aw, cw, rfl, hkey, csrc⟩ := HG.out.key k ws hws
      have HSRC := hide csrc
      have ckey : wr.cell? ⟨gk, k * 4 + 1, none⟩ = some (.slice aw ws.length cw) := (Cm.TB.toNon HT.out).cell hkey (fun h => h)
      have c6 : wr.cell? ⟨gg, 6, none⟩ = some (.slice (some ⟨gk, 0, none⟩) nk ck) := (Cm.TB.toNon HT.out).cell HG.out.kc (fun h => h)
      clear csrc hws hb ht hkey
      generalize hubs pt (ks.take k) = hs at *
      have e1 : (k : Int) < (nk : Int) := by omega
      -- in[:0]
      obtain ⟨tag1, hb1, ht1⟩ := K2.put1 HB.out (Tch.refl _ _) (Own.cut0 (show Own .i32 21 wr w.heap.size (.slice a10 n10 c10) l10 from HB.out.say 1)) (fun g hg => .inl (by rw [own_blk a10 n10 0 c10 c10]; exact hg))
      have HJ0 := hide (show KR w (castN (inP pt (ws.take 0))) (harcs nn hs) hs.length (.slice a8 n8 c8) (.int .i32 ((hs.length : Nat) : Int)) (.slice a10 0 c10) wr from KR.mk hb1 (HT.out.trans ht1))
      clear hb1 ht1 HB
      have hcap : (0 : Int) ≤ (c10 : Int) := by omega
      go_wp2_with fail
      go_loopw [41, 10] (fun t v10 wq => ∃ j : Nat, j ≤ ws.length ∧ t = .int .i64 (j : Int) ∧ KR w (castN (inP pt (ws.take j))) (harcs nn hs) hs.length (.slice a8 n8 c8) (.int .i32 ((hs.length : Nat) : Int)) v10 wq) (fun t _ _ => ws.length - (intOf t).toNat)
      case atStart => exact ⟨0, Nat.zero_le _, rfl, HJ0.out⟩
      case round =>
        clear HJ0
        obtain ⟨j, hj, rfl, tag2, a8x, n8x, c8x, a2, n2, c2, e8, _, rfl, hb2, ht2⟩ := hrel
        cases e8
        have HB2 := hide hb2
        have HT2 := hide ht2
        have hsz := HT2.out.tch.size
        clear hb2 ht2
        by_cases hjl : j < ws.length
        · obtain ⟨x, hx⟩ : ∃ x, ws[j]? = some x := ⟨ws[j], List.getElem?_eq_getElem hjl⟩
          have hxn := HRG.out x (List.mem_of_getElem? hx)
          obtain ⟨gw, ow, rfl, cx⟩ := Src.at' (Kn.Src.keep HSRC.out (Cm.TB.toNon HT2.out)) (castN_get hx)
          obtain ⟨bp, hbp⟩ : ∃ b, pt[x]? = some b := ⟨pt[x]'(by rw [HP.out.len]; exact hxn), List.getElem?_eq_getElem _⟩
          have cp : wr.cell? ⟨gp, x, none⟩ = some (.bool bp) := (HP.out.keep (Cm.TB.toNon HT2.out)).at_ x bp hbp
          have hin := inP_snoc (pt := pt) hx
          rw [ptAt_of hbp] at hin
          have hil := inP_len pt ws j
          have e2 : (x : Int) < (nn : Int) := by omega
          have e3 : (j : Int) < (ws.length : Int) := by omega
          clear c6 ckey hx hbp
          cases bp with
          | true =>
            rw [if_pos rfl] at hin
            have HIN := hide hin
            clear hin
            generalize hwl' : ws.length = wl at *
            go_upto_region 14 with (first
              | (at_builtin; go_must (refine wpList_app (v := .slice a2 n2 c2) _ rfl (.tmp 49) (.tmp 51) .i32 21 23 rfl i0 4 (by decide) Yba.underlying23 hi0 hz0 hz1 hz2 rfl (Own.alloc (HB2.out.say 1) _) rfl (Src.one .i32 21 wr (x : Int) 1) (by rw [castN_len]; simp only [List.length_cons, List.length_nil]; omega) (by simp only [World.size_alloc]; omega) ?_; intro v' w1 ho tt hf; obtain ⟨a3, n3, c3, hv'⟩ := ho.slice; subst hv'; obtain ⟨tag3, hb3, ht3⟩ := K2.put1 (HB2.out.keep ((Tch.refl Non wr).alloc _)) tt ho hf; have HJ := hide (show KR w (castN (inP pt (ws.take (j + 1)))) (harcs nn hs) hs.length (.slice a8 n8 c8) (.int .i32 ((hs.length : Nat) : Int)) (.slice a3 n3 c3) w1 from by rw [HIN.out, castN_snoc]; exact KR.mk hb3 (HT2.out.trans ((TB.keep ((Tch.refl Non wr).alloc _)).trans ht3))); clear hb3 ht3 ho tt hf))
              | fail)
            go_wp2_with fail
            go_roundw
            case rel => exact ⟨j + 1, by omega, by go_num, HJ.out⟩
            case measure => simp [intOf]; omega
          | false =>
            rw [if_neg (by decide), List.append_nil] at hin
            have HJ := hide (show KR w (castN (inP pt (ws.take (j + 1)))) (harcs nn hs) hs.length (.slice a8 n8 c8) (.int .i32 ((hs.length : Nat) : Int)) (.slice a2 n2 c2) wr from by rw [hin]; exact KR.mk HB2.out HT2.out)
            clear hin
            generalize hwl' : ws.length = wl at *
            go_wp2_with fail
            go_roundw
            case rel => exact ⟨j + 1, by omega, by go_num, HJ.out⟩
            case measure => simp [intOf]; omega
        · obtain rfl : j = ws.length := by omega
          rw [List.take_length] at HB2
          have hn2 : (inP pt ws).length = n2 := by
            have := (show Own .i32 21 wr w.heap.size (.slice a2 n2 c2) (castN (inP pt ws)) from HB2.out.say 1).len
            rw [castN_len] at this
            exact this
          by_cases h2 : n2 < 2
          · have e4 : decide ((n2 : Int) < 2) = true := by simp; omega
            have HJ := hide (HNX.out (.slice a8 n8 c8) (.int .i32 ((hs.length : Nat) : Int)) (.slice a2 n2 c2) wr (castN (inP pt ws)) (by
              rw [if_neg (by omega), List.append_nil]
              exact KR.mk HB2.out HT2.out))
            clear HNX HB2 HT2 c6 ckey
            generalize hwl' : ws.length = wl at *
            generalize hhs : hs.length = hl at *
            go_wp2_with fail
            go_roundw
            case rel => exact ⟨k + 1, by omega, by go_num, HJ.out⟩
            case measure => simp [intOf]; omega
          · have e4 : decide ((n2 : Int) < 2) = false := by simp; omega
            have HNX2 := hide (fun (v8 : Value) (wq : World) (h : KR w (castN (inP pt ws)) (harcs nn hs ++ one (nn + hs.length) (inP pt ws)) (hs.length + 1) v8 (.int .i32 ((hs.length : Int) + 1)) (.slice a2 n2 c2) wq) => HNX.out v8 (.int .i32 ((hs.length : Int) + 1)) (.slice a2 n2 c2) wq (castN (inP pt ws)) (by
              rw [if_pos (by omega), harcs_append, harcs_one, List.length_append]
              exact h))
            have HL0 := hide (show KR w (castN (inP pt ws)) (harcs nn hs ++ one (nn + hs.length) ((inP pt ws).take 0)) (hs.length + 1) (.slice a8 n8 c8) (.int .i32 ((hs.length : Int) + 1)) (.slice a2 n2 c2) wr from by
              show KR w _ (harcs nn hs ++ []) _ _ _ _ _
              rw [List.append_nil]
              exact KR.mk HB2.out HT2.out)
            have hil := inP_len pt ws ws.length
            rw [List.take_length] at hil
            clear HNX HB2 HT2 c6 ckey HSRC
            have HWL := hide hwl
            generalize hwl' : ws.length = wl at *
            generalize inP pt ws = inl at *
            generalize hhs : hs.length = hl at *
            have HKN := hide (fun wq (t : TB (fun _ => 0) w tag wq) => t)
            go_wp2_with fail
            go_loopw [64, 8] (fun t v8 wq => ∃ j : Nat, j ≤ n2 ∧ t = .int .i64 (j : Int) ∧ KR w (castN inl) (harcs nn hs ++ one (nn + hl) (inl.take j)) (hl + 1) v8 (.int .i32 ((hl : Int) + 1)) (.slice a2 n2 c2) wq) (fun t _ _ => n2 - (intOf t).toNat)
            case atStart => exact ⟨0, Nat.zero_le _, rfl, HL0.out⟩
            case round =>
              clear HL0
              obtain ⟨j, hj, rfl, tag3, a3, n3, c3, a2x, n2x, c2x, rfl, _, e2x, hb3, ht3⟩ := hrel
              cases e2x
              have HB3 := hide hb3
              have HT3 := hide ht3
              have hsz3 := HT3.out.tch.size
              clear hb3 ht3
              by_cases hjl : j < n2
              · obtain ⟨x, hx⟩ : ∃ x, inl[j]? = some x := ⟨inl[j]'(by omega), List.getElem?_eq_getElem _⟩
                have o1 : Own .i32 21 wr w.heap.size (.slice a2 n2 c2) (castN inl) := HB3.out.say 1
                obtain ⟨g2, e2'⟩ : ∃ g2, a2 = some ⟨g2, 0, none⟩ := by
                  rcases o1.form with ⟨e, _⟩ | ⟨g, cap, e, _⟩
                  · cases e; omega
                  · injection e with e1; exact ⟨g, e1⟩
                subst e2'
                have cx := o1.at (castN_get hx)
                have HOS := hide (one_snoc (hub := nn + hl) hx)
                have hol := one_len (nn + hl) (inl.take j)
                rw [List.length_take] at hol
                have e5 : (j : Int) < (n2 : Int) := by omega
                clear o1 hx
                go_upto_region 22 with (first
                  | (at_builtin; go_must (refine wpList_app2 (v := .slice a3 n3 c3) _ rfl (.tmp 68) (.tmp 75) 96 93 rfl i1 _ Yba.underlying93 hi1 hy0 hy1 hy2 rfl rfl (((HB3.out.keep ((Tch.refl Non wr).alloc _)).say 2 : Own2 96 _ _ _ _)) rfl rfl (Src2.new wr 96 [((x : Int), (nn : Int) + (hl : Int)), ((nn : Int) + (hl : Int), (x : Int))]) (by rw [castP_len, List.length_append]; simp only [List.length_cons, List.length_nil]; omega) (by simp only [World.size_alloc]; omega) ?_; intro v' w1 ho tt hf; obtain ⟨a4, n4, c4, hv'⟩ := ho.slice; subst hv'; obtain ⟨tag4, hb4, ht4⟩ := K2.put2 (HB3.out.keep ((Tch.refl Non wr).alloc _)) tt ho hf; have HJ := hide (show KR w (castN inl) (harcs nn hs ++ one (nn + hl) (inl.take (j + 1))) (hl + 1) (.slice a4 n4 c4) (.int .i32 ((hl : Int) + 1)) (.slice (some ⟨g2, 0, none⟩) n2 c2) w1 from by rw [HOS.out, ← List.append_assoc]; refine KR.mk (tag := tag4) ?_ (HT3.out.trans ((TB.keep ((Tch.refl Non wr).alloc _)).trans ht4)); have e : castP (harcs nn hs ++ one (nn + hl) (inl.take j) ++ [(x, nn + hl), (nn + hl, x)]) = castP (harcs nn hs ++ one (nn + hl) (inl.take j)) ++ [((x : Int), (nn : Int) + (hl : Int)), ((nn : Int) + (hl : Int), (x : Int))] := (by simp [castP]); rw [e]; exact hb4); clear hb4 ht4 ho tt hf))
                  | fail)
                go_wp2_with fail
                go_roundw
                case rel => exact ⟨j + 1, by omega, by go_num, HJ.out⟩
                case measure => simp [intOf]; omega
              · obtain rfl : j = n2 := by omega
                have hlen : inl.take j = inl := List.take_of_length_le (by omega)
                rw [hlen] at HB3
                have ck : wr.cell? ⟨gg, 1, none⟩ = some (.int .u8 0) := (Cm.TB.toNon HT3.out).cell HG.out.kn (fun h => h)
                have HJ := hide (HNX2.out (.slice a3 n3 c3) wr (KR.mk HB3.out HT3.out))
                have HH := hide (has_none wr 2 (by omega))
                clear HB3 HT3 HNX2
                go_wp2_with (first | (go_at_call 20; refine HH.out.mono ?_; rintro e w' ⟨rfl, rfl⟩) | fail)
                go_roundw
                case rel => exact ⟨k + 1, by omega, by go_num, HJ.out⟩
                case measure => simp [intOf]; omega
    · obtain rfl : k = nk := by omega
      have hks : ks.take k = ks := List.take_of_length_le (by rw [HG.out.len]; exact Nat.le_refl _)
      rw [hks] at HB hhl ⊢
      generalize hhs : (hubs pt ks).length = hl at *
      clear hb ht
      go_wp2_with fail
      go_ret2
      exact ⟨a8, n8, c8, (by rw [hhs]; rfl), HB.out.say 2, Cm.TB.toNon HT.out⟩
end Go.Proofs.Ybulkaxc.Kn
