/-
  heldClosure (9), by contract.
-/
import Derived.Test.YbulkaxcHa
import Derived.Test.YbulkaxcMp
import Derived.Test.YbulkaxcGraphOf
import Derived.Test.YbulkaxcComp
namespace Go.Proofs.Ybulkaxc.Hc
open Go Go.RowKit Go.Proofs.Ybulkaxc.M2 Go.Proofs.Ybulkaxc.Cm Go.Proofs.Ybulkaxc.Kn Go.Proofs.Ybulkaxc.So Go.Proofs.Ybulkaxc.Hh Go.Proofs.Ybulkaxc.Hb Go.Proofs.Ybulkaxc.Pl2 Go.Proofs.Ybulkaxc.Tj Go.Proofs.Ybulkaxc.Mp
set_option linter.unusedVariables false

/-- The repairer in memory. -/
structure Rp (w : World) (grp gps gg gd gf gpo grk nn gst ghd m : Nat) (st hd : List Int) : Prop where
  p0 : w.cell? ⟨grp, 0, none⟩ = some (.pointer (some ⟨gps, 0, none⟩))
  p2 : w.cell? ⟨grp, 2, none⟩ = some (.slice (some ⟨gpo, 0, none⟩) nn nn)
  po : ∀ x, x < nn → w.cell? ⟨gpo, x, none⟩ = some (.int .i64 0)
  s0 : w.cell? ⟨gps, 0, none⟩ = some (.pointer (some ⟨gg, 0, none⟩))
  s1 : w.cell? ⟨gps, 1, none⟩ = some (.pointer (some ⟨gd, 0, none⟩))
  s8 : w.cell? ⟨gps, 8, none⟩ = some (.pointer (some ⟨gf, 0, none⟩))
  d1 : w.cell? ⟨gd, 1, none⟩ = some (.int .i32 (nn : Int))
  f0 : w.cell? ⟨gf, 0, none⟩ = some (.slice (some ⟨gst, 0, none⟩) (nn + 1) (nn + 1))
  f1 : w.cell? ⟨gf, 1, none⟩ = some (.slice (some ⟨ghd, 0, none⟩) m m)
  f2 : w.cell? ⟨gf, 2, none⟩ = some (.slice (some ⟨grk, 0, none⟩) nn nn)
  os : Own .i32 21 w 0 (.slice (some ⟨gst, 0, none⟩) (nn + 1) (nn + 1)) st
  oh : Own .i32 21 w 0 (.slice (some ⟨ghd, 0, none⟩) m m) hd
theorem Rp.keep {w w' : World} {grp gps gg gd gf gpo grk nn gst ghd m : Nat} {st hd : List Int} (h : Rp w grp gps gg gd gf gpo grk nn gst ghd m st hd) (t : Tch Non w w') : Rp w' grp gps gg gd gf gpo grk nn gst ghd m st hd :=
  ⟨t.cell h.p0 (fun h => h), t.cell h.p2 (fun h => h), fun x hx => t.cell (h.po x hx) (fun h => h), t.cell h.s0 (fun h => h), t.cell h.s1 (fun h => h), t.cell h.s8 (fun h => h), t.cell h.d1 (fun h => h), t.cell h.f0 (fun h => h), t.cell h.f1 (fun h => h), t.cell h.f2 (fun h => h), h.os.keep t, h.oh.keep t⟩

/-- Arcs so far: those of the keys' nodes, of the nodes below u, and j of u's. -/
def C1 (w : World) (A0 : List (Nat × Nat)) (H : List (Nat × Nat)) (hd : List Int) (u j : Nat) (v9 : Value) (wq : World) : Prop :=
  ∃ a n c l, v9 = .slice a n c ∧ Own2 96 wq w.heap.size (.slice a n c) (castP l) ∧ Tch Non w wq ∧ l.length ≤ 10000 + below (fsOf A0) u + j ∧
    (∀ x y, (x, y) ∈ l ↔ (x, y) ∈ H ∨ ((x, y) ∈ A0 ∧ x < u) ∨ (x = u ∧ ∃ k, below (fsOf A0) u ≤ k ∧ k < below (fsOf A0) u + j ∧ hd[k]? = some (y : Int)))
theorem C1.row {w : World} {A0 H : List (Nat × Nat)} {nn : Nat} {st hd : List Int} {u j : Nat} {v9 : Value} {wq : World} (hcsr : CSR A0 nn st hd) (h : C1 w A0 H hd u j v9 wq) (hj : below (fsOf A0) u + j = below (fsOf A0) (u + 1)) : C1 w A0 H hd (u + 1) 0 v9 wq := by
  obtain ⟨a, n, c, l, h1, h2, h3, h4, h5⟩ := h
  refine ⟨a, n, c, l, h1, h2, h3, by omega, fun x y => ?_⟩
  rw [h5 x y]
  constructor
  · rintro (h | ⟨h, hx⟩ | ⟨rfl, k, k1, k2, k3⟩)
    · exact .inl h
    · exact .inr (.inl ⟨h, by omega⟩)
    · obtain ⟨t, ht, ht2⟩ := hcsr.seg_of k1 (by omega)
      rw [ht2] at k3
      have : t = y := by have := Option.some.inj k3; omega
      subst this
      exact .inr (.inl ⟨ht, by omega⟩)
  · rintro (h | ⟨h, hx⟩ | ⟨_, k, k1, k2, _⟩)
    · exact .inl h
    · by_cases e : x = u
      · subst e
        obtain ⟨k, k1, k2, k3⟩ := hcsr.of_arc h
        exact .inr (.inr ⟨rfl, k, k1, by omega, k3⟩)
      · exact .inr (.inl ⟨h, by omega⟩)
    · omega
theorem Arcs_of {w : World} {B : Nat} {a : Option Addr} {n c : Nat} {l : List (Nat × Nat)} (h : Own2 96 w B (.slice a n c) (castP l)) : Gr.Arcs2 w a n l := by
  have hl := h.len
  rw [castP_len] at hl
  refine ⟨hl, fun k f t hk => ?_⟩
  have hk' : (castP l)[k]? = some ((f : Int), (t : Int)) := by unfold castP; rw [List.getElem?_map, hk]; rfl
  rcases h.form with ⟨e, e2⟩ | ⟨g, cap, e, _⟩
  · rw [e2] at hk'; simp at hk'
  · injection e with e1
    subst e1
    obtain ⟨h1, h2⟩ := h.at hk'
    exact ⟨g, rfl, h1, h2⟩

/-- The arcs of the graph. -/
def EE (A0 : List (Nat × Nat)) (H : List (Nat × Nat)) (a b : Nat) : Prop := (a, b) ∈ H ∨ (a, b) ∈ A0
/-- What the closure holds. -/
def Want (E : Nat → Nat → Prop) (nn : Nat) (pt : List Bool) (u : Nat) : Prop := Plus E u u ∧ ∃ v, v < nn ∧ ptAt pt v = true ∧ Plus E v v ∧ (v = u ∨ (Plus E u v ∧ Plus E v u))
def CLRet (w : World) (A0 H : List (Nat × Nat)) (nn : Nat) (pt : List Bool) (e : Ending) (w' : World) : Prop :=
  ∃ gc cl, e = .returned (.slice (some ⟨gc, 0, none⟩) nn nn) ∧ OwnB w' w.heap.size (.slice (some ⟨gc, 0, none⟩) nn nn) cl ∧ Tch Non w w' ∧ ∀ u, u < nn → ∃ b : Bool, cl[u]? = some b ∧ (b = true ↔ Want (EE A0 H) nn pt u)

/-- The first j of the answer. -/
def M4 (w6 : World) (gc nn : Nat) (R : Nat → Bool → Prop) (j : Nat) (wq : World) : Prop :=
  ∃ cl, OwnB wq gc (.slice (some ⟨gc, 0, none⟩) nn nn) cl ∧ Tch (fun x => x = gc) w6 wq ∧ ∀ x, x < j → ∃ b : Bool, cl[x]? = some b ∧ R x b
/-- The components that j of the part's nodes lie on a cycle of. -/
def M3 (w4 : World) (t : St) (pt : List Bool) (j : Nat) (wq : World) : Prop :=
  ∃ n S, Mp wq w4.heap.size n S ∧ n ≤ j ∧ Tch (fun x => x = w4.heap.size) w4 wq ∧ ∀ c, S c = true ↔ ∃ v, v < j ∧ ptAt pt v = true ∧ t.cyc v ∧ t.comp v = c

set_option maxRecDepth 10000 in
set_option maxHeartbeats 4000000 in
theorem heldClosure_any (w : World) (grp gps gg gd gf gpo grk nn gst ghd m gp gop : Nat) (ak : Option Addr) (nk ck : Nat) (ks : List (List Nat)) (pt : List Bool) (st hd : List Int) (A0 : List (Nat × Nat)) (hr : Rp w grp gps gg gd gf gpo grk nn gst ghd m st hd) (hg : Gm w gg ak nk ck nn ks) (hp : Pb w gp nn pt) (hop : Pb w gop nn (List.replicate nn true))
    (hcsr : CSR A0 nn st hd) (hA : ∀ a b, (a, b) ∈ A0 → a < nn ∧ b < nn) (hm : A0.length = m) (hm2 : m ≤ 1000) (hnk : nk ≤ 64) (hnn : nn ≤ 100) :
    Calls Yba.prog 9 #[.pointer (some ⟨grp, 0, none⟩), .slice (some ⟨gp, 0, none⟩) nn nn, .slice (some ⟨gop, 0, none⟩) nn nn] w fun e w' => CLRet w A0 (harcs nn (hubs pt ks)) nn pt e w' := by
  have HR := hide hr
  have HG := hide hg
  have HP := hide hp
  have HOP := hide hop
  have HC := hide hcsr
  have HA := hide hA
  have hhl : (hubs pt ks).length ≤ 64 := by have h1 := hubs_len pt ks; rw [hg.len] at h1; omega
  have hal : (harcs nn (hubs pt ks)).length ≤ 8192 := by
    have h1 := harcs_len 64 (hubs pt ks) nn (fun l hl => by
      obtain ⟨ws, h1, rfl⟩ := hubs_sub hl
      have h2 := inP_len pt ws ws.length
      rw [List.take_length] at h2
      have h3 := (hg.rng ws h1).1
      omega)
    have h2 : 2 * 64 * (hubs pt ks).length ≤ 2 * 64 * 64 := Nat.mul_le_mul_left _ hhl
    omega
  have HHA := hide (show ∀ a b, (a, b) ∈ harcs nn (hubs pt ks) → a < nn + (hubs pt ks).length ∧ b < nn + (hubs pt ks).length from by
    intro a b h
    obtain ⟨h0, l, e, h2⟩ := harcs_mem.1 h
    have hlt := (List.getElem?_eq_some_iff.1 e).1
    obtain ⟨ws, h3, rfl⟩ := hubs_sub (List.mem_of_getElem? e)
    rcases h2 with ⟨h4, rfl⟩ | ⟨rfl, h4⟩
    · have := (hg.rng ws h3).2 a (inP_mem h4).1
      omega
    · have := (hg.rng ws h3).2 b (inP_mem h4).1
      omega)
  have HK := hide (keyNodes_any w gg gp nn ak nk ck ks pt hg hp hnk hnn)
  obtain ⟨i1, hi1, hy0, hy1, hy2⟩ := info_parts info96
  have p0 := hr.p0
  have s8 := hr.s8
  have s0 := hr.s0
  have f2 := hr.f2
  clear hr hg hp hop hcsr hA
  generalize hhs : hubs pt ks = hs at *
  generalize hHH : harcs nn hs = H at *
  go_enter Yba.func9, Yba.ntmps9
  go_upto_region 4 with (first | (go_at_call 15; refine HK.out.mono ?_; rintro e w1 ⟨a8, n8, c8, rfl, o8, t8⟩; have O8 := hide o8; have T8 := hide t8; clear o8 t8) | fail)
  clear HK p0 s8 s0 f2
  rw [hHH] at O8
  have HC0 := hide (show C1 w A0 H hd 0 0 (.slice a8 n8 c8) w1 from ⟨a8, n8, c8, H, rfl, O8.out, T8.out, by omega, fun x y => by
    constructor
    · exact .inl
    · rintro (h | ⟨_, h⟩ | ⟨_, k, k1, k2, _⟩)
      · exact h
      · omega
      · omega⟩)
  clear O8 T8
  generalize hhl' : hs.length = hl at *
  go_wp2_with fail
  go_loopw [48, 9] (fun t v wq => ∃ u : Nat, u ≤ nn ∧ t = .int .i32 (u : Int) ∧ C1 w A0 H hd u 0 v wq) (fun t _ _ => nn - (intOf t).toNat)
  case atStart => exact ⟨0, Nat.zero_le _, rfl, HC0.out⟩
  case round =>
    clear HC0
    obtain ⟨u, hu, rfl, a9, n9, c9, l, rfl, o9, t9, hll, hmem⟩ := hrel
    by_cases hlt : u < nn
    · have HC1 := hide (show C1 w A0 H hd u 0 (.slice a9 n9 c9) wr from ⟨a9, n9, c9, l, rfl, o9, t9, hll, hmem⟩)
      have hbl := below_le (fsOf A0) (u + 1)
      have hfl : (fsOf A0).length = m := by unfold fsOf; rw [List.length_map]; exact hm
      rw [hfl] at hbl
      have hbu := below_mono (fsOf A0) (Nat.le_succ u)
      have RK := HR.out.keep t9
      have p1 := RK.f0
      have p2 := RK.f1
      have q1 := RK.os.at (HC.out.starts u (by omega))
      have q2 := RK.os.at (HC.out.starts (u + 1) (by omega))
      clear RK o9 t9 hmem hll
      have e1 : (u : Int) < (nn : Int) := by omega
      have e2 : (u : Int) < (nn : Int) + 1 := by omega
      have e3 : (u : Int) + 1 < (nn : Int) + 1 := by omega
      have HBU := hide (rfl : below (fsOf A0) u = below (fsOf A0) u)
      generalize hlo : below (fsOf A0) u = lo at *
      generalize hhi : below (fsOf A0) (u + 1) = hi at *
      by_cases hlm : m = lo
      · obtain rfl : lo = hi := by omega
        subst hlm
        have HRW := hide (fun wq v (h : C1 w A0 H hd u 0 v wq) => h.row HC.out (by omega))
        have e4 : (m : Int) ≤ (m : Int) := by omega
        go_upto_region 7 with fail
        go_quiet (fail)
        have HC2 := hide (show C1 w A0 H hd u 0 (.slice a9 n9 c9) (wr.drewN nq) from by
          obtain ⟨a, n, c, l, h1, h2, h3, h4, h5⟩ := HC1.out
          exact ⟨a, n, c, l, h1, h2.keep (drewN_tch wr nq), h3.also (drewN_tch wr nq), h4, h5⟩)
        clear HC1 p1 p2 q1 q2
        generalize wr.drewN nq = wB at *
        go_wp2_with fail
        go_loopw [72, 9] (fun t v wq => t = .int .i64 0 ∧ v = .slice a9 n9 c9 ∧ wq = wB) (fun _ _ _ => 0)
        case atStart => exact ⟨rfl, rfl, rfl⟩
        case round =>
          obtain ⟨rfl, rfl, hwr⟩ := hrel
          subst hwr
          go_wp2_with fail
          go_roundw
          case rel => exact ⟨u + 1, by omega, by go_num, HRW.out _ _ HC2.out⟩
          case measure => simp [intOf]; omega
      · obtain ⟨d, rfl⟩ : ∃ d, hi = lo + d := ⟨hi - lo, by omega⟩
        have HRW := hide (fun wq v (h : C1 w A0 H hd u d v wq) => h.row HC.out (by omega))
        have e4 : (lo : Int) ≤ (lo : Int) + (d : Int) := by omega
        have e5 : (lo : Int) + (d : Int) ≤ (m : Int) := by omega
        have e6 : ¬ ((m : Int) = (lo : Int)) := by omega
        go_upto_region 7 with fail
        go_quiet (fail)
        have HC2 := hide (show C1 w A0 H hd u 0 (.slice a9 n9 c9) (wr.drewN nq) from by
          obtain ⟨a, n, c, l, h1, h2, h3, h4, h5⟩ := HC1.out
          exact ⟨a, n, c, l, h1, h2.keep (drewN_tch wr nq), h3.also (drewN_tch wr nq), h4, h5⟩)
        clear HC1 p1 p2 q1 q2
        generalize wr.drewN nq = wB at *
        go_wp2_with fail
        go_loopw [72, 9] (fun t v wq => ∃ j : Nat, j ≤ d ∧ t = .int .i64 (j : Int) ∧ C1 w A0 H hd u j v wq) (fun t _ _ => d - (intOf t).toNat)
        case atStart => exact ⟨0, Nat.zero_le _, rfl, HC2.out⟩
        case round =>
          clear HC2
          obtain ⟨j, hj, rfl, a2, n2, c2, l2, rfl, o2, t2, hl2, hm2'⟩ := hrel
          by_cases hjd : j < d
          · obtain ⟨h, hA1, hh⟩ := HC.out.seg_of (p := u) (k := lo + j) (by omega) (by omega)
            have hhn := HA.out u h hA1
            have ch := (HR.out.keep t2).oh.at hh
            have O2 := hide o2
            have T2 := hide t2
            have hsz := t2.size
            have HM2 := hide hm2'
            have HHH := hide hh
            have e7 : (j : Int) < (d : Int) := by omega
            have hl2' : l2.length ≤ 100000 := by omega
            clear o2 t2 hm2' hh hA1
            go_upto_region 11 with (first
              | (at_builtin; go_must (refine wpList_app2 (v := .slice a2 n2 c2) _ rfl (.tmp 76) (.tmp 80) 96 93 rfl i1 _ Yba.underlying93 hi1 hy0 hy1 hy2 rfl rfl (O2.out.keep ((Tch.refl Non wr).alloc _)) rfl rfl (Src2.new wr 96 [((u : Int), (h : Int))]) (by rw [castP_len]; simp only [List.length_cons, List.length_nil]; omega) (by simp only [World.size_alloc]; omega) ?_; intro v' w3 ho tt hf; obtain ⟨a3, n3, c3, hv'⟩ := ho.slice; subst hv'; have HJ := hide (show C1 w A0 H hd u (j + 1) (.slice a3 n3 c3) w3 from ⟨a3, n3, c3, l2 ++ [(u, h)], rfl, (by rw [castP_snoc]; exact ho), (T2.out.alloc _).trans tt (fun x hx => .inr (O2.out.lt hx).1), (by simp; omega), (fun x y => by
                  rw [List.mem_append, HM2.out x y]
                  constructor
                  · rintro ((h1 | h1 | ⟨rfl, k, k1, k2, k3⟩) | h1)
                    · exact .inl h1
                    · exact .inr (.inl h1)
                    · exact .inr (.inr ⟨rfl, k, k1, by omega, k3⟩)
                    · obtain ⟨rfl, rfl⟩ : x = u ∧ y = h := by simpa using h1
                      exact .inr (.inr ⟨rfl, lo + j, by omega, by omega, HHH.out⟩)
                  · rintro (h1 | h1 | ⟨rfl, k, k1, k2, k3⟩)
                    · exact .inl (.inl h1)
                    · exact .inl (.inr (.inl h1))
                    · by_cases e : k = lo + j
                      · subst e
                        rw [HHH.out] at k3
                        have : h = y := by have := Option.some.inj k3; omega
                        subst this
                        exact .inr (by simp)
                      · exact .inl (.inr (.inr ⟨rfl, k, k1, by omega, k3⟩)))⟩); clear ho tt hf))
              | fail)
            go_wp2_with fail
            go_roundw
            case rel => exact ⟨j + 1, by omega, by go_num, HJ.out⟩
            case measure => simp [intOf]; omega
          · obtain rfl : j = d := by omega
            have HCE := hide (HRW.out wr (.slice a2 n2 c2) ⟨a2, n2, c2, l2, rfl, o2, t2, hl2, hm2'⟩)
            clear o2 t2 hm2'
            go_wp2_with fail
            go_roundw
            case rel => exact ⟨u + 1, by omega, by go_num, HCE.out⟩
            case measure => simp [intOf]; omega
    · obtain rfl : nn = u := by omega
      have hEE : EA l = EE A0 H := by
        funext x y
        refine propext ((hmem x y).trans ?_)
        constructor
        · rintro (h | ⟨h, _⟩ | ⟨_, k, k1, k2, _⟩)
          · exact .inl h
          · exact .inr h
          · omega
        · rintro (h | h)
          · exact .inl h
          · exact .inr (.inl ⟨h, (HA.out x y h).1⟩)
      have hlA : ∀ a b, (a, b) ∈ l → a < nn + hl ∧ b < nn + hl := by
        intro a b h
        rcases (hmem a b).1 h with h1 | ⟨h1, _⟩ | ⟨_, k, k1, k2, _⟩
        · exact HHA.out a b h1
        · have := HA.out a b h1
          omega
        · omega
      have hn9 : l.length = n9 := by have := o9.len; rw [castP_len] at this; exact this
      have hbl := below_le (fsOf A0) nn
      have hfl : (fsOf A0).length = m := by unfold fsOf; rw [List.length_map]; exact hm
      have HHA1 := hide (Ha.heldArcs_any wr gg gp gop nn grp gps gpo ak nk ck ks pt a9 n9 c9 (HG.out.keep t9) (HP.out.keep t9) (HOP.out.keep t9) (HR.out.keep t9).p0 (HR.out.keep t9).s0 (HR.out.keep t9).p2 (HR.out.keep t9).po hnk hnn)
      have O9 := hide o9
      have T9 := hide t9
      have HEE := hide hEE
      have HLA := hide hlA
      have hn9' : n9 ≤ 100000 := by omega
      clear o9 t9 hmem hEE hlA hll hbl hfl
      have hmm := @run_makeMap Yba.prog
      go_upto_region 14 with (first | (go_at_call 16; refine HHA1.out.mono ?_; rintro e w2 ⟨rfl, t2⟩; have T2 := hide t2; clear t2) | fail)
      have HGO := hide (Gr.graphOf_any w2 (nn + hl) n9 c9 a9 l (Arcs_of (O9.out.keep T2.out)) HLA.out (by omega) hn9')
      rw [Int.natCast_add] at HGO
      go_upto_region 15 with (first
        | (go_at_call 18; refine HGO.out.mono ?_; rintro e w3 ⟨gs3, gh3, st3, hd3, rfl, os3, oh3, hcsr3, t3⟩; have HCO := hide (components_any w3 (nn + hl) n9 gs3 gh3 l st3 hd3 (by omega) hn9' HLA.out hcsr3 (os3.mono (Nat.zero_le _)) (oh3.mono (Nat.zero_le _))); have T3 := hide t3; clear t3 os3 oh3 hcsr3)
        | (go_at_call 17; refine HCO.out.mono ?_; rintro e w4 ⟨gm, gy, lm, ly, t, rfl, om, oy, t4, hinv, hpath, hidx, hlm, hly, hcp⟩; have OM := hide om; have OY := hide oy; have T4 := hide t4; have HINV := hide hinv; have HPA := hide hpath; have HIDX := hide hidx; have HLM := hide hlm; have HLY := hide hly; have HCP := hide hcp; clear om oy t4 hinv hpath hidx hlm hly hcp)
        | fail)
      have T04 := hide (((T9.out.also T2.out).also T3.out).also T4.out)
      have hgm : gm < w4.heap.size := (OM.out.lt (g := gm) rfl).2
      have hgy : gy < w4.heap.size := (World.ownsRow.lt OY.out gy rfl).2
      have hwsz := T04.out.size
      clear HHA1 HGO HCO T9 T2 T3 T4 O9
      have HM0 := hide (show M3 w4 t pt 0 (w4.alloc (.map #[] 0)) from ⟨0, _, Mp.made w4, Nat.le_refl _, (Tch.refl Non w4).alloc _ |>.non, fun c => by
        constructor
        · intro h; cases h
        · rintro ⟨v, hv, _⟩; omega⟩)
      go_wp2_with fail
      go_loopw [103] (fun tt wq => ∃ j : Nat, j ≤ nn ∧ tt = .int .i64 (j : Int) ∧ M3 w4 t pt j wq) (fun tt _ => nn - (intOf tt).toNat)
      case atStart => exact ⟨0, Nat.zero_le _, rfl, HM0.out⟩
      case round =>
        clear HM0
        obtain ⟨j, hj, rfl, nm, S, hmp, hnm, tm, hS⟩ := hrel
        by_cases hjl : j < nn
        · obtain ⟨bp, hbp⟩ : ∃ b, pt[j]? = some b := ⟨pt[j]'(by rw [HP.out.len]; exact hjl), List.getElem?_eq_getElem _⟩
          have cp : wr.cell? ⟨gp, j, none⟩ = some (.bool bp) := tm.cell (T04.out.cell (HP.out.at_ j bp hbp) (fun h => h)) (by
            have := World.block_lt_of_cell? _ _ (T04.out.cell (HP.out.at_ j bp hbp) (fun h => h))
            intro e
            have e' : gp = w4.heap.size := e
            dsimp only at this
            omega)
          obtain ⟨by', hby, hcy⟩ := HLY.out j (by omega)
          have cy : wr.cell? ⟨gy, j, none⟩ = some (.bool by') := tm.cell (OwnB.cell OY.out hby) (fun e => by have e' : gy = w4.heap.size := e; omega)
          have cm : wr.cell? ⟨gm, j, none⟩ = some (.int .i32 ((t.comp j : Nat) : Int)) := tm.cell (Own.at OM.out (HLM.out j (by omega))) (fun e => by have e' : gm = w4.heap.size := e; omega)
          have hcj := HCP.out j (by omega)
          have hpt := ptAt_of hbp
          have e1 : (j : Int) < (nn : Int) := by omega
          have e2 : (j : Int) < (nn : Int) + (hl : Int) := by omega
          have TM := hide tm
          have HS := hide hS
          have HMP := hide hmp
          have HCY := hide hcy
          have HPT := hide hpt
          clear tm hS hmp hcy hpt hbp hby
          have HNO := hide (fun (hno : ¬ (ptAt pt j = true ∧ t.cyc j)) => (show M3 w4 t pt (j + 1) wr from ⟨nm, S, HMP.out, by omega, TM.out, fun c => by
            rw [HS.out c]
            constructor
            · rintro ⟨v, hv, h2⟩
              exact ⟨v, by omega, h2⟩
            · rintro ⟨v, hv, h2, h3, h4⟩
              refine ⟨v, ?_, h2, h3, h4⟩
              by_cases e : v = j
              · subst e; exact absurd ⟨h2, h3⟩ hno
              · omega⟩))
          cases bp with
          | false =>
            have HJ := hide (HNO.out (fun h => by have := HPT.out; rw [h.1] at this; cases this))
            clear HNO
            go_wp2_with fail
            go_roundw
            case rel => exact ⟨j + 1, by omega, by go_num, HJ.out⟩
            case measure => simp [intOf]; omega
          | true =>
            cases by' with
            | false =>
              have HJ := hide (HNO.out (fun h => by have := HCY.out.2 h.2; cases this))
              clear HNO
              go_wp2_with fail
              go_roundw
              case rel => exact ⟨j + 1, by omega, by go_num, HJ.out⟩
              case measure => simp [intOf]; omega
            | true =>
              have hcyj : t.cyc j := HCY.out.1 rfl
              clear HNO
              generalize hcjj : t.comp j = cj at *
              obtain ⟨D, hD1, hD2, hD3⟩ := HMP.out
              have HD1 := hide hD1
              have HD2 := hide hD2
              have HD3 := hide hD3
              clear hD1 hD2 hD3
              obtain ⟨w5, hrun5, hown5, hgr5⟩ := HD1.out.update law21 Yba.underlying102 (by unfold maxLen; omega) (key21 cj (by omega)) (plainElem_bool Yba.underlying4 true)
              have HJ := hide (show M3 w4 t pt (j + 1) w5 from ⟨nm + 1, _, Mp.upd HD2.out HD3.out hown5, (by omega), TM.out.of_grownBy hgr5 (fun x hx => .inl (Option.some.inj hx).symm), (fun c => by
                  rw [Bool.or_eq_true, HS.out c, beq_iff_eq]
                  constructor
                  · rintro (⟨v, hv, h2⟩ | rfl)
                    · exact ⟨v, by omega, h2⟩
                    · exact ⟨j, by omega, HPT.out, hcyj, hcjj⟩
                  · rintro ⟨v, hv, h2, h3, h4⟩
                    by_cases e : v = j
                    · subst e; exact .inr (by rw [← h4, hcjj])
                    · exact .inl ⟨v, by omega, h2, h3, h4⟩)⟩)
              clear hown5 hgr5
              go_wp2_with fail
              go_roundw
              case rel => exact ⟨j + 1, by omega, by go_num, HJ.out⟩
              case measure => simp [intOf]; omega
        · obtain rfl : nn = j := by omega
          have TW := hide (T04.out.trans tm (fun x hx => .inr (by rw [hx]; exact hwsz)))
          have RK := HR.out.keep TW.out
          have p0 := RK.p0
          have s1 := RK.s1
          have d1 := RK.d1
          have HMP := hide hmp
          have HS := hide hS
          have OM2 := hide (OM.out.touch tm (fun g hg e => by have e1 : gm = g := Option.some.inj hg; have e' : g = w4.heap.size := e; omega))
          have OY2 := hide (show OwnB wr w3.heap.size (.slice (some ⟨gy, 0, none⟩) (nn + hl) (nn + hl)) ly from ownsRow_touch OY.out tm (fun g hg e => by have e1 : gy = g := Option.some.inj hg; have e' : g = w4.heap.size := e; omega))
          have hsz4 := tm.size
          have hbm : w4.heap.size < wr.heap.size := by
            obtain ⟨D, hD, _⟩ := hmp
            exact hD.lt
          clear RK hmp hS tm
          obtain ⟨i0, hi0, hz0, hz1, hz2⟩ := info_parts info4
          go_upto_region 23 with (first
            | (refine wpList_make_full _ rfl (.tmp 130) (.tmp 130) 44 rfl wr.heap.size 4 i0 (.bool false) 1 Yba.underlying44 hi0 hz0 hz1 .i32 .i32 _ _ nn rfl rfl rfl rfl (by rw [hz2]; omega) (by unfold maxLen; omega) (Nat.le_refl _) ?_; intro w6 hown6 hgr6; have t6 : Tch Non wr w6 := (Tch.refl _ _).of_grownBy hgr6 (by simp); have O6 := hide (OwnB.made hown6); have T6 := hide t6; clear hown6 hgr6 t6) | fail)
          clear p0 s1 d1
          have hgy2 : gy < wr.heap.size := by omega
          have hgm2 : gm < wr.heap.size := by omega
          have M6 := hide (HMP.out.touch T6.out (fun h => h))
          have OM6 := hide (OM2.out.keep T6.out)
          have OY6 := hide (show OwnB w6 w3.heap.size (.slice (some ⟨gy, 0, none⟩) (nn + hl) (nn + hl)) ly from ownsRow_touch OY2.out T6.out (fun g hg h => h))
          have TW6 := hide (TW.out.also T6.out)
          have hw6 : w.heap.size ≤ wr.heap.size := TW.out.size
          have HQ0 := hide (show M4 w6 wr.heap.size nn (fun u b => b = true ↔ (t.cyc u ∧ S (t.comp u) = true)) 0 w6 from ⟨_, O6.out, Tch.refl _ _, fun x hx => by omega⟩)
          clear HMP OM2 OY2 TW T6 O6
          generalize hgc : wr.heap.size = gc at *
          go_wp2_with fail
          go_loopw [134] (fun tt wq => ∃ j : Nat, j ≤ nn ∧ tt = .int .i64 (j : Int) ∧ M4 w6 gc nn (fun u b => b = true ↔ (t.cyc u ∧ S (t.comp u) = true)) j wq) (fun tt _ => nn - (intOf tt).toNat)
          case atStart => exact ⟨0, Nat.zero_le _, rfl, HQ0.out⟩
          case round =>
            clear HQ0
            obtain ⟨j, hj, rfl, cl, hcl, tq, hsp⟩ := hrel
            by_cases hjl : j < nn
            · obtain ⟨by', hby, hcy⟩ := HLY.out j (by omega)
              have cy : wr.cell? ⟨gy, j, none⟩ = some (.bool by') := tq.cell (OwnB.cell OY6.out hby) (fun e => by have e' : gy = gc := e; omega)
              have cm : wr.cell? ⟨gm, j, none⟩ = some (.int .i32 ((t.comp j : Nat) : Int)) := tq.cell (Own.at OM6.out (HLM.out j (by omega))) (fun e => by have e' : gm = gc := e; omega)
              have hlk := (M6.out.touch tq (by intro e; have e' : w4.heap.size = gc := e; omega)).look (t.comp j) (by have := HCP.out j (by omega); omega)
              have hcll := hcl.len
              obtain ⟨b0, hb0⟩ : ∃ b, cl[j]? = some b := ⟨cl[j]'(by omega), List.getElem?_eq_getElem _⟩
              have cc := OwnB.cell hcl hb0
              have zc := OwnB.frozen hcl j
              have HFI := hide (fun (b : Bool) (hb : b = true ↔ (t.cyc j ∧ S (t.comp j) = true)) => (show M4 w6 gc nn (fun u b => b = true ↔ (t.cyc u ∧ S (t.comp u) = true)) (j + 1) (wr.setCell ⟨gc, j, none⟩ (.bool b)) from
                ⟨_, hcl.set j b, tq.setCell (p := ⟨gc, j, none⟩) (.inl rfl) _, fun x hx => by
                  rw [List.getElem?_set]
                  by_cases e : j = x
                  · subst e
                    exact ⟨b, by rw [if_pos rfl, if_pos (by omega)], hb⟩
                  · rw [if_neg e]
                    exact hsp x (by omega)⟩))
              have e1 : (j : Int) < (nn : Int) := by omega
              have e2 : (j : Int) < (nn : Int) + (hl : Int) := by omega
              have hcj := HCP.out j (by omega)
              have HCY := hide hcy
              clear hcl tq hsp hb0 hby hcy
              generalize hSS : S (t.comp j) = sb at *
              generalize t.comp j = cj at *
              cases by' with
              | false =>
                have HJ := hide (HFI.out false (by
                  constructor
                  · intro h; cases h
                  · intro h; have := HCY.out.2 h.1; cases this))
                clear HFI
                go_wp2_with fail
                go_roundw
                case rel => exact ⟨j + 1, by omega, by go_num, HJ.out⟩
                case measure => simp [intOf]; omega
              | true =>
                have HJ := hide (HFI.out sb (by
                  constructor
                  · intro h; exact ⟨HCY.out.1 rfl, h⟩
                  · intro h; exact h.2))
                clear HFI
                go_wp2_with fail
                go_roundw
                case rel => exact ⟨j + 1, by omega, by go_num, HJ.out⟩
                case measure => simp [intOf]; omega
            · obtain rfl : nn = j := by omega
              go_wp2_with fail
              go_ret
              refine ⟨gc, cl, rfl, ?_, TW6.out.trans tq (fun x hx => .inr (by rw [hx]; exact hw6)), fun u hu => ?_⟩
              · exact ⟨hcl.1, hcl.2.elim .inl (fun ⟨g, cap, cur, hv, hb', rest⟩ => .inr ⟨g, cap, cur, hv, by omega, rest⟩)⟩
              · obtain ⟨b, hb1, hb2⟩ := hsp u hu
                refine ⟨b, hb1, hb2.trans ?_⟩
                rw [HS.out (t.comp u)]
                have := closure_iff HINV.out HPA.out (nn := nn) (fun v => ptAt pt v = true) (fun x hx => HIDX.out x (by omega)) u hu
                rw [HEE.out] at this
                exact this
end Go.Proofs.Ybulkaxc.Hc
