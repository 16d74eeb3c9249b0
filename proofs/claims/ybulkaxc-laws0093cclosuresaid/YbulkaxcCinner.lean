/-
  components (17): the loop over the calls.
-/
import Derived.Test.YbulkaxcVis2
import Derived.Test.YbulkaxcCut2
import Derived.Test.YbulkaxcOrd
import Derived.Deep.RegionHeld3
import Derived.Deep.RegionLaw
import Derived.Deep.DeepCutAuto
import Derived.Deep.QuietTactic
import Derived.BigQuiet
import Derived.WalkSpells
namespace Go.Proofs.Ybulkaxc.Cm
open Go Go.RowKit Go.Proofs.Ybulkaxc.M2 Go.Proofs.Ybulkaxc.Tj Go.Proofs.Ybulkaxc.Pl2 Go.Proofs.Ybulkaxc.Cut2
set_option linter.unusedVariables false
theorem castP_set (pre : List (Nat × Nat)) (p k : Nat) : (castP (pre ++ [(p, k)])).set pre.length (((p : Int), (k : Int)).1, (k : Int) + 1) = castP (pre ++ [(p, k + 1)]) := by
  rw [castP_snoc, castP_snoc]
  have e : pre.length = (castP pre).length := (castP_len pre).symm
  rw [e, List.set_append_right _ _ (Nat.le_refl _), Nat.sub_self]
  rfl
theorem Bag.rep {w w' : World} {tag : Nat → Nat} {T : Nat → Thing} (h : Bag w tag T) (t : Tch Non w w') : Bag w' tag T := h.keep t
theorem RO.keep {w w' : World} {tag : Nat → Nat} {g n : Nat} {l : List Int} (h : RO w tag g n l) (t : Tch Non w w') : RO w' tag g n l := h.tb (TB.keep t)
theorem drewN_tch (w : World) (q : Nat) : Tch Non w (w.drewN q) := ⟨rfl, rfl, rfl, Nat.le_refl _, fun _ _ _ => rfl⟩
theorem drew_tch (w : World) : Tch Non w w.drew := ⟨rfl, rfl, rfl, Nat.le_refl _, fun _ _ _ => rfl⟩
theorem bag_x6 {w : World} {tag : Nat → Nat} {f : Fx} {s : CV} {v : Value} (h : Bag w tag (T f s)) (e : s.x6 = v) : Bag w tag (T f { s with x6 := v }) := by
  subst e; exact h
theorem min_eq' (lp iq : Nat) : (if iq < lp then (iq : Int) else (lp : Int)) = ((min lp iq : Nat) : Int) := by
  rw [Nat.min_def]
  split <;> split <;> omega
theorem castP_take (pre : List (Nat × Nat)) (p k : Nat) : (castP (pre ++ [(p, k)])).take pre.length = castP pre := by
  rw [castP_snoc]
  have e : pre.length = (castP pre).length := (castP_len pre).symm
  rw [e, List.take_left']
  rfl
theorem Rl.notin {A : List (Nat × Nat)} {n : Nat} {hd : List Int} {s : CV} {t : St} {pre : List (Nat × Nat)} {p k : Nat} (h : Rl A n hd s t (pre ++ [(p, k)])) : p ∉ pre.map Prod.fst := by
  intro hm
  have hs := h.inv.psrt
  rw [h.path, List.map_append] at hs
  have := (List.pairwise_append.1 hs).2.2 p hm p (by simp)
  omega
theorem leave_self {t : St} {pre : List Nat} {p : Nat} (h : p ∉ pre) : (Tj.leave t pre p).low p = t.low p := by
  unfold Tj.leave
  dsimp only
  cases hg : pre.getLast? with
  | none => rfl
  | some c =>
    dsimp only
    rw [upd_ne]
    intro e
    exact h (by rw [e]; exact List.mem_of_getLast? hg)
theorem castN_at {l : List Nat} {i x : Nat} (h : l[i]? = some x) : (castN l)[i]? = some (x : Int) := by
  unfold castN
  rw [List.getElem?_map, h]
  rfl
theorem split_at {a b : List Nat} {p j : Nat} : (a ++ p :: b)[a.length + j]? = (p :: b)[j]? := by
  rw [List.getElem?_append_right (by omega)]
  congr 1
  omega
theorem split_take (a b : List Nat) (p : Nat) : (castN (a ++ p :: b)).take a.length = castN a := by
  unfold castN
  rw [← List.map_take, List.take_left']
  rfl
/-- While the component is closed. -/
def Clo (wE : World) (tagE : Nat → Nat) (f : Fx) (sE : CV) (n : Nat) (t : St) (seg : List Nat) (two : Prop) (j : Nat) (wq : World) : Prop :=
  ∃ tag lm lo ly, Bag wq tag (T f { sE with lm := lm, lo := lo, ly := ly }) ∧ TB tagE wE tag wq ∧ Cl n { sE with lm := lm, lo := lo, ly := ly } t seg two j

set_option maxRecDepth 100000 in
set_option maxHeartbeats 8000000 in
theorem comp_inner (d3 d4 d5 d17 d18 d19 d20 d21 d22 d23 d24 d25 d26 d27 d28 d29 d30 d31 d32 d33 d34 d35 d36 d37 d38 d39 d40 d41 d42 d43 d44 d45 d46 d47 d48 d49 d50 d51 d52 d53 d54 d55 d56 d57 d58 d59 d60 d61 d62 d63 d64 d65 d66 d67 d68 d69 d70 d71 d72 d73 d74 d75 d76 d77 d78 d79 d80 d81 d82 d83 d84 d85 d86 d87 d88 d89 d90 d91 d92 d93 d94 d95 d96 d97 d98 d99 d100 d101 d102 d103 d104 d105 d106 d107 d108 d109 d110 d111 d112 d113 d114 d115 d116 d117 d118 d119 d120 d121 d122 d123 d124 d125 d126 d127 d128 d129 d130 d131 d132 d133 d134 d135 d136 d137 d138 d139 d140 d141 d142 d143 d144 d145 d146 d147 d148 d149 d150 d151 d152 d153 d154 d155 d156 d157 d158 d159 d160 d161 d162 d163 d164 d165 d166 d167 d168 d169 d170 d171 d172 d173 d174 d175 d176 d177 d178 d179 d180 d181 d182 d183 d184 d185 d186 d187 d188 d189 d190 d191 d192 d193 d194 d195 d196 d197 d198 d199 d200 d201 d202 d203 d204 : Value) (v15 : Value) (w w6 : World) (n m gs gh b1 b2 b3 b4 b5 b6 b7 gi gl go gm gy r : Nat) (A : List (Nat × Nat)) (st hd : List Int) (hn : n ≤ 1000) (hm : m ≤ 100000) (hAm : A.length = m) (hA : ∀ a b, (a, b) ∈ A → a < n ∧ b < n) (hcsr : CSR A n st hd) (hb7 : b7 ≤ w.heap.size)
    (hi : ∃ mm, Inn w ⟨b7, n, b1, b2, b3, b4, b5, b6, b7, gi, gl, go, gm, gy, .slice (some ⟨gs, 0, none⟩) (n + 1) (n + 1)⟩ A gs gh m st hd (r + 1) (v15, w6) mm)
    (K : Act → World → Prop) (Q : Exit → Act → World → Prop) (hQ : ∀ c (a : Act) d v w', Q (.panic c) (a.put (some d) v) w' → Q (.panic c) a w') (hK : ∀ (x18 x19 x20 x21 x22 x24 x52 x53 x54 x55 x56 x57 x58 x59 x60 x61 x62 x63 x64 x65 x66 x67 x68 x69 x70 x71 x72 x73 x74 x75 x76 x77 x78 x79 x80 x81 x82 x83 x84 x85 x86 x87 x88 x89 x90 x91 x92 x93 x94 x95 x96 x97 x98 x99 x100 x101 x102 x103 x104 x105 x106 x107 x108 x109 x110 x111 x112 x113 x114 x115 x116 x117 x118 x119 x120 x121 x122 x123 x124 x125 x126 x127 x128 x129 x130 x131 x132 x133 x134 x135 x136 x137 x138 x139 x140 x141 x142 x143 x144 x145 x146 x147 x148 x149 x150 x151 x152 x153 x154 x155 x156 x157 x158 x159 x160 x161 x162 x163 x164 x165 x166 x167 x168 x169 x170 x171 x172 x173 x174 x175 x176 x177 x178 x179 x180 x181 x182 x183 x184 x185 x186 x187 x188 x189 x190 x191 x192 x193 x194 x195 x196 x197 x198 x199 x200 x201 : Value) (wr : World) (t : St), St9 w ⟨b7, n, b1, b2, b3, b4, b5, b6, b7, gi, gl, go, gm, gy, .slice (some ⟨gs, 0, none⟩) (n + 1) (n + 1)⟩ A gs gh m st hd wr t [] → (∀ x, x < r + 1 → 0 < t.idx x) → K ⟨#[.slice (some ⟨gs, 0, none⟩) (n + 1) (n + 1), .slice (some ⟨gh, 0, none⟩) m m, .pointer (some ⟨b7, 0, none⟩), d3, d4, d5, .int .i32 (n : Int), .pointer (some ⟨b2, 0, none⟩), .pointer (some ⟨b3, 0, none⟩), .slice (some ⟨gm, 0, none⟩) n n, .slice (some ⟨gy, 0, none⟩) n n, .pointer (some ⟨b5, 0, none⟩), .pointer (some ⟨b4, 0, none⟩), .pointer (some ⟨b6, 0, none⟩), .pointer (some ⟨b1, 0, none⟩), .int .i32 ((t.comps : Nat) : Int), .func (.func 23) #[] #[.pointer (some ⟨b1, 0, none⟩), .pointer (some ⟨b2, 0, none⟩), .pointer (some ⟨b3, 0, none⟩), .pointer (some ⟨b4, 0, none⟩), .pointer (some ⟨b5, 0, none⟩), .pointer (some ⟨b6, 0, none⟩), .pointer (some ⟨b7, 0, none⟩)], d17, x18, x19, x20, x21, x22, d23, x24, d25, d26, d27, d28, d29, d30, d31, d32, d33, d34, d35, d36, d37, d38, d39, d40, d41, d42, d43, d44, d45, d46, d47, d48, d49, d50, d51, x52, x53, x54, x55, x56, x57, x58, x59, x60, x61, x62, x63, x64, x65, x66, x67, x68, x69, x70, x71, x72, x73, x74, x75, x76, x77, x78, x79, x80, x81, x82, x83, x84, x85, x86, x87, x88, x89, x90, x91, x92, x93, x94, x95, x96, x97, x98, x99, x100, x101, x102, x103, x104, x105, x106, x107, x108, x109, x110, x111, x112, x113, x114, x115, x116, x117, x118, x119, x120, x121, x122, x123, x124, x125, x126, x127, x128, x129, x130, x131, x132, x133, x134, x135, x136, x137, x138, x139, x140, x141, x142, x143, x144, x145, x146, x147, x148, x149, x150, x151, x152, x153, x154, x155, x156, x157, x158, x159, x160, x161, x162, x163, x164, x165, x166, x167, x168, x169, x170, x171, x172, x173, x174, x175, x176, x177, x178, x179, x180, x181, x182, x183, x184, x185, x186, x187, x188, x189, x190, x191, x192, x193, x194, x195, x196, x197, x198, x199, x200, x201, d202, d203, d204], []⟩ wr) :
    Code.wp Yba.prog (snd ((Yba.f17.body.bind (tailAt 13)).getD .skip)) (Exit.then K Q) ⟨#[.slice (some ⟨gs, 0, none⟩) (n + 1) (n + 1), .slice (some ⟨gh, 0, none⟩) m m, .pointer (some ⟨b7, 0, none⟩), d3, d4, d5, .int .i32 (n : Int), .pointer (some ⟨b2, 0, none⟩), .pointer (some ⟨b3, 0, none⟩), .slice (some ⟨gm, 0, none⟩) n n, .slice (some ⟨gy, 0, none⟩) n n, .pointer (some ⟨b5, 0, none⟩), .pointer (some ⟨b4, 0, none⟩), .pointer (some ⟨b6, 0, none⟩), .pointer (some ⟨b1, 0, none⟩), v15, .func (.func 23) #[] #[.pointer (some ⟨b1, 0, none⟩), .pointer (some ⟨b2, 0, none⟩), .pointer (some ⟨b3, 0, none⟩), .pointer (some ⟨b4, 0, none⟩), .pointer (some ⟨b5, 0, none⟩), .pointer (some ⟨b6, 0, none⟩), .pointer (some ⟨b7, 0, none⟩)], d17, d18, d19, d20, d21, d22, d23, d24, d25, d26, d27, d28, d29, d30, d31, d32, d33, d34, d35, d36, d37, d38, d39, d40, d41, d42, d43, d44, d45, d46, d47, d48, d49, d50, d51, d52, d53, d54, d55, d56, d57, d58, d59, d60, d61, d62, d63, d64, d65, d66, d67, d68, d69, d70, d71, d72, d73, d74, d75, d76, d77, d78, d79, d80, d81, d82, d83, d84, d85, d86, d87, d88, d89, d90, d91, d92, d93, d94, d95, d96, d97, d98, d99, d100, d101, d102, d103, d104, d105, d106, d107, d108, d109, d110, d111, d112, d113, d114, d115, d116, d117, d118, d119, d120, d121, d122, d123, d124, d125, d126, d127, d128, d129, d130, d131, d132, d133, d134, d135, d136, d137, d138, d139, d140, d141, d142, d143, d144, d145, d146, d147, d148, d149, d150, d151, d152, d153, d154, d155, d156, d157, d158, d159, d160, d161, d162, d163, d164, d165, d166, d167, d168, d169, d170, d171, d172, d173, d174, d175, d176, d177, d178, d179, d180, d181, d182, d183, d184, d185, d186, d187, d188, d189, d190, d191, d192, d193, d194, d195, d196, d197, d198, d199, d200, d201, d202, d203, d204], []⟩ w6 := by
  conv => arg 2; whnf
  have HA := hide hA
  have HC := hide hcsr
  have HI := hide hi
  have HK := hide hK
  have HB7 := hide hb7
  have HQ := hide hQ
  clear hQ
  clear hA hcsr hi hK hb7
  obtain ⟨Fm, hF⟩ := least_fun (Inn w ⟨b7, n, b1, b2, b3, b4, b5, b6, b7, gi, gl, go, gm, gy, .slice (some ⟨gs, 0, none⟩) (n + 1) (n + 1)⟩ A gs gh m st hd (r + 1))
  have HF := hide hF
  clear hF
  go_wp2_with fail
  go_loopw [15] (fun v wq => ∃ mm, Inn w ⟨b7, n, b1, b2, b3, b4, b5, b6, b7, gi, gl, go, gm, gy, .slice (some ⟨gs, 0, none⟩) (n + 1) (n + 1)⟩ A gs gh m st hd (r + 1) (v, wq) mm) (fun v wq => Fm (v, wq))
  case atStart => exact HI.out
  case round =>
    clear HI
    obtain ⟨⟨t, c, et, hst, hx, hmm⟩, hle⟩ := HF.out _ hrel
    have et' : u15 = .int .i32 ((t.comps : Nat) : Int) := et
    subst et'
    clear et hrel hle
    dsimp only at hst hmm
    have HN := hide (fun (t' : St) (c' : List (Nat × Nat)) (w' : World) (h : St9 w ⟨b7, n, b1, b2, b3, b4, b5, b6, b7, gi, gl, go, gm, gy, .slice (some ⟨gs, 0, none⟩) (n + 1) (n + 1)⟩ A gs gh m st hd w' t' c') (hx' : ∀ x, x < r + 1 → 0 < t'.idx x) (hlt : ms A n t' c' < ms A n t c) =>
      (show (∃ mm, Inn w ⟨b7, n, b1, b2, b3, b4, b5, b6, b7, gi, gl, go, gm, gy, .slice (some ⟨gs, 0, none⟩) (n + 1) (n + 1)⟩ A gs gh m st hd (r + 1) (.int .i32 ((t'.comps : Nat) : Int), w') mm) ∧ Fm (.int .i32 ((t'.comps : Nat) : Int), w') < Fm (.int .i32 ((t.comps : Nat) : Int), wr) from
        ⟨⟨_, t', c', rfl, h, hx', rfl⟩, by
          have := (HF.out (.int .i32 ((t'.comps : Nat) : Int), w') ⟨_, t', c', rfl, h, hx', rfl⟩).2 _ ⟨t', c', rfl, h, hx', rfl⟩
          rw [hmm]
          exact Nat.lt_of_le_of_lt this hlt⟩))
    have HX := hide hx
    clear hmm HF hx
    obtain ⟨tag, s, h1, h2, h3, h4, h5⟩ := hst
    obtain ⟨sm1, sm2, sm3, sm4⟩ := h3.small
    dsimp only at sm1 sm2 sm3 sm4
    rcases List.eq_nil_or_concat c with rfl | ⟨pre, ⟨p, k⟩, hc⟩
    · have c6 : wr.cell? ⟨b6, 0, none⟩ = some s.x6 := Blk.cell (h1.say 6) 0
      obtain ⟨a6, n6, c6', e6⟩ := Own2.slice (h1.say 12)
      obtain rfl : 0 = n6 := by
        have := h1.say 12
        rw [show (T ⟨b7, n, b1, b2, b3, b4, b5, b6, b7, gi, gl, go, gm, gy, .slice (some ⟨gs, 0, none⟩) (n + 1) (n + 1)⟩ s 12).say = fun w => Own2 111 w b7 s.v6 s.cal from rfl, e6, h3.cal] at this
        exact Own2.len this
      rw [h3.x6, e6] at c6
      have HSt := hide (show St9 w ⟨b7, n, b1, b2, b3, b4, b5, b6, b7, gi, gl, go, gm, gy, .slice (some ⟨gs, 0, none⟩) (n + 1) (n + 1)⟩ A gs gh m st hd wr t [] from ⟨tag, s, h1, h2, h3, h4, h5⟩)
      clear h1 h2 h3 h4 h5 HN e6
      generalize hcm : t.comps = cm at *
      go_wp2_with fail
      rw [← hcm]
      exact HK.out _ _ _ _ _ _ _ _ _ _ _ _ _ _ _ _ _ _ _ _ _ _ _ _ _ _ _ _ _ _ _ _ _ _ _ _ _ _ _ _ _ _ _ _ _ _ _ _ _ _ _ _ _ _ _ _ _ _ _ _ _ _ _ _ _ _ _ _ _ _ _ _ _ _ _ _ _ _ _ _ _ _ _ _ _ _ _ _ _ _ _ _ _ _ _ _ _ _ _ _ _ _ _ _ _ _ _ _ _ _ _ _ _ _ _ _ _ _ _ _ _ _ _ _ _ _ _ _ _ _ _ _ _ _ _ _ _ _ _ _ _ _ _ _ _ _ _ _ _ _ _ _ _ _ _ _ wr t HSt.out HX.out
    · have hc' : c = pre ++ [(p, k)] := by simpa using hc
      subst hc'
      clear hc
      have hpp : p ∈ t.path := by rw [h3.path]; simp
      have hpn : p < n := h3.out p (h3.inv.pos p (h3.inv.sub p hpp))
      obtain ⟨hk1, hk2, hk3⟩ := h3.nxt (p, k) (by simp)
      dsimp only at hk1 hk2 hk3
      have hbl := below_le (fsOf A) (p + 1)
      have hfl : (fsOf A).length = m := by unfold fsOf; rw [List.length_map]; exact hAm
      have cst : wr.cell? ⟨gs, p + 1, none⟩ = some (.int .i32 ((below (fsOf A) (p + 1) : Nat) : Int)) := h4.own.at (HC.out.starts (p + 1) (by omega))
      have c7 : wr.cell? ⟨b7, 0, none⟩ = some (.slice (some ⟨gs, 0, none⟩) (n + 1) (n + 1)) := Blk.cell (h1.say 7) 0
      have o12 : Own2 111 wr b7 s.v6 (castP (pre ++ [(p, k)])) := h3.cal ▸ h1.say 12
      have hcl : (castP (pre ++ [(p, k)])).length = pre.length + 1 := by rw [castP_len]; simp
      obtain ⟨g6, q6, e6⟩ : ∃ g q, s.v6 = .slice (some ⟨g, 0, none⟩) (pre.length + 1) q := by
        rcases o12.form with ⟨_, e⟩ | ⟨g, cap, e, _⟩
        · rw [e] at hcl; simp at hcl
        · rw [hcl] at e; exact ⟨g, cap, e⟩
      have c6 : wr.cell? ⟨b6, 0, none⟩ = some (.slice (some ⟨g6, 0, none⟩) (pre.length + 1) q6) := by
        rw [← e6, ← h3.x6]; exact Blk.cell (h1.say 6) 0
      rw [e6] at o12
      have hat : (castP (pre ++ [(p, k)]))[pre.length]? = some ((p : Int), (k : Int)) := by
        rw [castP_snoc, List.getElem?_append_right (by rw [castP_len]; exact Nat.le_refl _), castP_len]; simp
      obtain ⟨cp, ck⟩ := o12.at hat
      dsimp only at cp ck
      have hlc : pre.length + 1 ≤ 1000 := by simp at sm3; omega
      have HB1 := hide h1
      have HB2 := hide h2
      have HB3 := hide h3
      have HB4 := hide h4
      have HB5 := hide h5
      have HO12 := hide o12
      have HK3 := hide hk3
      have HE6 := hide e6
      have HPP := hide hpp
      have HAT := hide hat
      clear h1 h2 h3 h4 h5 o12 hcl hk3 e6 hpp hat sm3 hfl
      generalize hL : pre.length = L at *
      generalize hbq : below (fsOf A) (p + 1) = bq at *
      have e3 : (p : Int) + 1 < (n : Int) + 1 := by omega
      by_cases hkb : k < bq
      · have e4 : decide ((k : Int) < (bq : Int)) = true := by simp; omega
        go_upto_region 17 with fail
        go_quiet (fail)
        have HB1a := hide (HB1.out.keep (drewN_tch wr nq))
        have HB2a := hide (HB2.out.trans (TB.keep (drewN_tch wr nq)))
        have HB4a := hide (RO.keep HB4.out (drewN_tch wr nq))
        have HB5a := hide (RO.keep HB5.out (drewN_tch wr nq))
        have HOa := hide (HO12.out.keep (drewN_tch wr nq))
        clear HB1 HB2 HB4 HB5 HO12 c6 cp ck c7 cst e4
        have hkm : k < m := by have h1 : (fsOf A).length = A.length := by unfold fsOf; rw [List.length_map]
                               omega
        generalize wr.drewN nq = wA at *
        obtain ⟨q, hpq, hdq⟩ := HC.out.seg_of (p := p) (k := k) hk1 (by rw [hbq]; exact hkb)
        have hqn : q < n := (HA.out p q hpq).2
        have HPQ := hide hpq
        have HDQ := hide hdq
        have ck : wA.cell? ⟨g6, L * 2 + 1, none⟩ = some (.int .i32 (k : Int)) := (HOa.out.at HAT.out).2
        have zk : wA.frozen? ⟨g6, L * 2 + 1, none⟩ = false := HOa.out.frozen _
        have ch : wA.cell? ⟨gh, k, none⟩ = some (.int .i32 (q : Int)) := HB5a.out.own.at hdq
        have hos := HOa.out.set HAT.out ((k : Int) + 1)
        rw [← hL, castP_set, hL, ← HE6.out] at hos
        obtain ⟨tag1, hb1, ht1⟩ := put12 (v := s.v6) HB1a.out ((Tch.refl (fun x => s.v6.ownBlock = some x) wA).setCell (p := ⟨g6, L * 2 + 1, none⟩) (.inl (by rw [HE6.out]; rfl)) (.int .i32 ((k : Int) + 1))) hos (Fr.refl _ _)
        have HB1 := hide hb1
        have HB2 := hide (HB2a.out.trans ht1)
        have HB4 := hide (HB4a.out.tb ht1)
        have HB5 := hide (HB5a.out.tb ht1)
        clear hb1 ht1 hos HB1a HB2a HB4a HB5a HOa hpq hdq
        have e5 : (k : Int) < (m : Int) := by omega
        go_upto_region 20 with fail
        generalize wA.setCell ⟨g6, L * 2 + 1, none⟩ (.int .i32 ((k : Int) + 1)) = wB at *
        clear ck zk ch
        have c2 : wB.cell? ⟨b2, 0, none⟩ = some (.slice (some ⟨gi, 0, none⟩) n n) := Blk.cell (HB1.out.say 2) 0
        have c8 : wB.cell? ⟨gi, q, none⟩ = some (.int .i32 ((t.idx q : Nat) : Int)) := Own.at (HB1.out.say 8) (HB3.out.idx q hqn)
        have hil : t.idx q ≤ 1000 := by have := HB3.out.inv.le q; omega
        have e6 : (q : Int) < (n : Int) := by omega
        have hpi : 0 < t.idx p := HB3.out.inv.pos p (HB3.out.inv.sub p HPP.out)
        by_cases hw : t.idx q = 0
        · have e7 : (((t.idx q : Nat) : Int) == 0) = true := by rw [hw]; rfl
          have hne : q ≠ p := fun e => by rw [e] at hw; omega
          have e8 : ((q : Int) == (p : Int)) = false := by rw [beq_eq_false_iff_ne]; omega
          have HV := hide (visit_arc w ⟨b7, n, b1, b2, b3, b4, b5, b6, b7, gi, gl, go, gm, gy, .slice (some ⟨gs, 0, none⟩) (n + 1) (n + 1)⟩ A gs gh m st hd wB tag1 s t pre p k q HB1.out HB2.out HB3.out HB4.out HB5.out rfl HC.out (by omega) HB7.out hn hqn HPQ.out (by rw [hbq]; exact hkb) HDQ.out hw)
          have HN2 := hide (fun w' h => HN.out (Tj.mark (Tj.visit t q) p q) (pre ++ (p, k + 1) :: [(q, below (fsOf A) q)]) w' h (fun x hx => by
            show 0 < upd _ _ _ x
            by_cases e : x = q
            · rw [e, upd_same]; omega
            · rw [upd_ne _ _ e]; exact HX.out x hx) (by
            have h1 := ms_mark (A := A) (n := n) (t := Tj.visit t q) (pre := pre) (post := [(q, below (fsOf A) q)]) (p := p) (k := k) (q := q) (by rw [hbq]; exact hkb)
            have h2 := ms_visit (A := A) (c := pre ++ [(p, k)]) (t := t) hqn hw
            rw [List.append_assoc] at h2
            rw [← h2]
            exact h1))
          clear HN HB1 HB2 HB4 HB5
          dsimp only at HV
          generalize t.idx q = iq at *
          generalize hcm : t.comps = cm at *
          go_upto_region 24 with (first | (go_at_call 23; refine HV.out.mono ?_; rintro e w7 ⟨v7, rfl, hst7⟩; have HR := hide (HN2.out w7 hst7); clear hst7) | fail)
          clear HV HN2
          go_wp2_with fail
          go_roundw
          case rel => rw [← hcm]; exact HR.out.1
          case measure =>
            have h := HR.out.2
            have e : (Tj.mark (Tj.visit t q) p q).comps = t.comps := rfl
            rw [e, hcm] at h
            rw [hcm]
            exact h
        · have e7 : (((t.idx q : Nat) : Int) == 0) = false := by rw [beq_eq_false_iff_ne]; omega
          obtain ⟨bo, hbo, hbi⟩ := HB3.out.ons q hqn
          have c5 : wB.cell? ⟨b5, 0, none⟩ = some (.slice (some ⟨go, 0, none⟩) n n) := Blk.cell (HB1.out.say 5) 0
          have c11 : wB.cell? ⟨go, q, none⟩ = some (.bool bo) := OwnB.cell (HB1.out.say 11) hbo
          have HBI := hide hbi
          clear hbo hbi
          have hlp : t.low p ≤ 1000 := by have := (HB3.out.inv.l1 p HPP.out).1; have := HB3.out.inv.le p; omega
          cases bo with
          | true =>
            have c3 : wB.cell? ⟨b3, 0, none⟩ = some (.slice (some ⟨gl, 0, none⟩) n n) := Blk.cell (HB1.out.say 3) 0
            have c9 : wB.cell? ⟨gl, p, none⟩ = some (.int .i32 ((t.low p : Nat) : Int)) := Own.at (HB1.out.say 9) (HB3.out.low p hpn)
            have z9 : wB.frozen? ⟨gl, p, none⟩ = false := Own.frozen (HB1.out.say 9) p
            have e9 : (p : Int) < (n : Int) := by omega
            generalize hiq : t.idx q = iq at *
            generalize hlo : t.low p = lp at *
            generalize hcm : t.comps = cm at *
            go_upto_region 23 with fail
            have hC0 : (fun w' : World => w'.cell? ⟨b3, 0, none⟩ = some (.slice (some ⟨gl, 0, none⟩) n n) ∧ w'.cell? ⟨gl, p, none⟩ = some (.int .i32 (lp : Int)) ∧ w'.cell? ⟨b2, 0, none⟩ = some (.slice (some ⟨gi, 0, none⟩) n n) ∧ w'.cell? ⟨gi, q, none⟩ = some (.int .i32 (iq : Int))) wB.drew := ⟨c3, c9, c2, c8⟩
            refine Ord.AnyC.begin (C := (fun w' : World => w'.cell? ⟨b3, 0, none⟩ = some (.slice (some ⟨gl, 0, none⟩) n n) ∧ w'.cell? ⟨gl, p, none⟩ = some (.int .i32 (lp : Int)) ∧ w'.cell? ⟨b2, 0, none⟩ = some (.slice (some ⟨gi, 0, none⟩) n n) ∧ w'.cell? ⟨gi, q, none⟩ = some (.int .i32 (iq : Int)))) (z := 12) (by kernel_rfl) ?_
            refine Ord.AnyC.take (i := 0) (oi := { dst := some 102, op := Op.load 23 (Operand.tmp 8), type := 23, pos := "walk.go:845", after := #[], guard := none }) (v := .slice (some ⟨gl, 0, none⟩) n n) rfl (by kernel_rfl) (by kernel_rfl) (by kernel_rfl) (by kernel_rfl) (by kernel_rfl) (fun c a w h => HQ.out c a _ _ w h) (Or.inl ⟨by rfl, fun w0 hSw => by (try dsimp only at hSw); go_simp⟩) hC0 ?_
            try simp only [Act.put, List.setIfInBounds_toArray, List.set_cons_zero, List.set_cons_succ]
            refine Ord.AnyC.takeP (i := 1) (oi := { dst := some 103, op := Op.move (Operand.tmp 19), type := 21, pos := "walk.go:845", after := #[], guard := none }) (v := .int .i32 (p : Int)) rfl (by kernel_rfl) (by kernel_rfl) (by kernel_rfl) (by decide) (fun c a w h => HQ.out c a _ _ w h) (Or.inl ⟨by rfl, fun w0 _ => by go_simp⟩) (fun _ => hC0) ?_
            try simp only [Act.put, List.setIfInBounds_toArray, List.set_cons_zero, List.set_cons_succ]
            refine Ord.AnyC.take (i := 2) (oi := { dst := some 104, op := Op.load 23 (Operand.tmp 8), type := 23, pos := "walk.go:845", after := #[], guard := none }) (v := .slice (some ⟨gl, 0, none⟩) n n) rfl (by kernel_rfl) (by kernel_rfl) (by kernel_rfl) (by kernel_rfl) (by kernel_rfl) (fun c a w h => HQ.out c a _ _ w h) (Or.inl ⟨by rfl, fun w0 hSw => by (try dsimp only at hSw); go_simp⟩) hC0 ?_
            try simp only [Act.put, List.setIfInBounds_toArray, List.set_cons_zero, List.set_cons_succ]
            refine Ord.AnyC.takeP (i := 3) (oi := { dst := some 105, op := Op.move (Operand.tmp 19), type := 21, pos := "walk.go:845", after := #[], guard := none }) (v := .int .i32 (p : Int)) rfl (by kernel_rfl) (by kernel_rfl) (by kernel_rfl) (by decide) (fun c a w h => HQ.out c a _ _ w h) (Or.inl ⟨by rfl, fun w0 _ => by go_simp⟩) (fun _ => hC0) ?_
            try simp only [Act.put, List.setIfInBounds_toArray, List.set_cons_zero, List.set_cons_succ]
            refine Ord.AnyC.takeP (i := 4) (oi := { dst := some 106, op := Op.indexAddr 23 (Operand.tmp 104) (Operand.tmp 105), type := 0, pos := "walk.go:845", after := #[{ on := 2, ground := Ground.data }, { on := 3, ground := Ground.data }], guard := none }) (v := .pointer (some ⟨gl, p, none⟩)) rfl (by kernel_rfl) (by kernel_rfl) (by kernel_rfl) (by decide) (fun c a w h => HQ.out c a _ _ w h) (Or.inl ⟨by rfl, fun w0 _ => by go_simp⟩) (fun _ => hC0) ?_
            try simp only [Act.put, List.setIfInBounds_toArray, List.set_cons_zero, List.set_cons_succ]
            refine Ord.AnyC.take (i := 5) (oi := { dst := some 107, op := Op.load 21 (Operand.tmp 106), type := 21, pos := "walk.go:845", after := #[{ on := 4, ground := Ground.data }], guard := none }) (v := .int .i32 (lp : Int)) rfl (by kernel_rfl) (by kernel_rfl) (by kernel_rfl) (by kernel_rfl) (by kernel_rfl) (fun c a w h => HQ.out c a _ _ w h) (Or.inl ⟨by rfl, fun w0 hSw => by (try dsimp only at hSw); go_simp⟩) hC0 ?_
            try simp only [Act.put, List.setIfInBounds_toArray, List.set_cons_zero, List.set_cons_succ]
            refine Ord.AnyC.take (i := 6) (oi := { dst := some 108, op := Op.load 23 (Operand.tmp 7), type := 23, pos := "walk.go:845", after := #[], guard := none }) (v := .slice (some ⟨gi, 0, none⟩) n n) rfl (by kernel_rfl) (by kernel_rfl) (by kernel_rfl) (by kernel_rfl) (by kernel_rfl) (fun c a w h => HQ.out c a _ _ w h) (Or.inl ⟨by rfl, fun w0 hSw => by (try dsimp only at hSw); go_simp⟩) hC0 ?_
            try simp only [Act.put, List.setIfInBounds_toArray, List.set_cons_zero, List.set_cons_succ]
            refine Ord.AnyC.takeP (i := 7) (oi := { dst := some 109, op := Op.move (Operand.tmp 20), type := 21, pos := "walk.go:845", after := #[], guard := none }) (v := .int .i32 (q : Int)) rfl (by kernel_rfl) (by kernel_rfl) (by kernel_rfl) (by decide) (fun c a w h => HQ.out c a _ _ w h) (Or.inl ⟨by rfl, fun w0 _ => by go_simp⟩) (fun _ => hC0) ?_
            try simp only [Act.put, List.setIfInBounds_toArray, List.set_cons_zero, List.set_cons_succ]
            refine Ord.AnyC.takeP (i := 8) (oi := { dst := some 110, op := Op.indexAddr 23 (Operand.tmp 108) (Operand.tmp 109), type := 0, pos := "walk.go:845", after := #[{ on := 6, ground := Ground.data }, { on := 7, ground := Ground.data }], guard := none }) (v := .pointer (some ⟨gi, q, none⟩)) rfl (by kernel_rfl) (by kernel_rfl) (by kernel_rfl) (by decide) (fun c a w h => HQ.out c a _ _ w h) (Or.inl ⟨by rfl, fun w0 _ => by go_simp⟩) (fun _ => hC0) ?_
            try simp only [Act.put, List.setIfInBounds_toArray, List.set_cons_zero, List.set_cons_succ]
            refine Ord.AnyC.take (i := 9) (oi := { dst := some 111, op := Op.load 21 (Operand.tmp 110), type := 21, pos := "walk.go:845", after := #[{ on := 8, ground := Ground.data }], guard := none }) (v := .int .i32 (iq : Int)) rfl (by kernel_rfl) (by kernel_rfl) (by kernel_rfl) (by kernel_rfl) (by kernel_rfl) (fun c a w h => HQ.out c a _ _ w h) (Or.inl ⟨by rfl, fun w0 hSw => by (try dsimp only at hSw); go_simp⟩) hC0 ?_
            try simp only [Act.put, List.setIfInBounds_toArray, List.set_cons_zero, List.set_cons_succ]
            refine Ord.AnyC.takeP (i := 10) (oi := { dst := some 112, op := Op.call { callee := Callee.builtin Builtin.min, args := #[Operand.tmp 107, Operand.tmp 111], argTypes := #[21, 21] }, type := 21, pos := "walk.go:845", after := #[{ on := 5, ground := Ground.data }, { on := 9, ground := Ground.data }], guard := none }) (v := .int .i32 (if iq < lp then (iq : Int) else (lp : Int))) rfl (by kernel_rfl) (by kernel_rfl) (by kernel_rfl) (by decide) (fun c a w h => HQ.out c a _ _ w h) (Or.inl ⟨by rfl, fun w0 _ => by go_simp⟩) (fun _ => hC0) ?_
            try simp only [Act.put, List.setIfInBounds_toArray, List.set_cons_zero, List.set_cons_succ]
            refine Ord.AnyC.takeP (i := 11) (oi := { dst := some 113, op := Op.indexAddr 23 (Operand.tmp 102) (Operand.tmp 103), type := 0, pos := "walk.go:845", after := #[{ on := 0, ground := Ground.data }, { on := 1, ground := Ground.data }, { on := 0, ground := Ground.phase }, { on := 1, ground := Ground.phase }, { on := 2, ground := Ground.phase }, { on := 3, ground := Ground.phase }, { on := 4, ground := Ground.phase }, { on := 5, ground := Ground.phase }, { on := 6, ground := Ground.phase }, { on := 7, ground := Ground.phase }, { on := 8, ground := Ground.phase }, { on := 9, ground := Ground.phase }, { on := 10, ground := Ground.phase }], guard := none }) (v := .pointer (some ⟨gl, p, none⟩)) rfl (by kernel_rfl) (by kernel_rfl) (by kernel_rfl) (by decide) (fun c a w h => HQ.out c a _ _ w h) (Or.inl ⟨by rfl, fun w0 _ => by go_simp⟩) (fun _ => hC0) ?_
            try simp only [Act.put, List.setIfInBounds_toArray, List.set_cons_zero, List.set_cons_succ]
            refine Ord.AnyC.one (i := 12) (o := { dst := none, op := Op.store 21 (Operand.tmp 113) (Operand.tmp 112), type := 0, pos := "walk.go:845", after := #[{ on := 11, ground := Ground.data }, { on := 10, ground := Ground.data }, { on := 0, ground := Ground.phase }, { on := 1, ground := Ground.phase }, { on := 2, ground := Ground.phase }, { on := 3, ground := Ground.phase }, { on := 4, ground := Ground.phase }, { on := 5, ground := Ground.phase }, { on := 6, ground := Ground.phase }, { on := 7, ground := Ground.phase }, { on := 8, ground := Ground.phase }, { on := 9, ground := Ground.phase }, { on := 10, ground := Ground.phase }], guard := none }) (by kernel_rfl) rfl (fun K hK => ?_)
            replace hK := hide hK
            go_simp
            refine hK.out _ _ (fun h => absurd rfl h) ?_
            clear hK K hC0
            try simp only [Act.put, List.setIfInBounds_toArray, List.set_cons_zero, List.set_cons_succ]
            refine Ord.AnyC.done (by kernel_rfl) ?_ _
            rw [min_eq']
            have hqs : q ∈ t.stk := HBI.out.1 rfl
            obtain ⟨tag2, hb2, ht2⟩ := put9 HB1.out p ((min lp iq : Nat) : Int)
            have HFIN := hide (fun (wz : World) (ly' : List Bool) (tagz : Nat → Nat) (hb : Bag wz tagz (T ⟨b7, n, b1, b2, b3, b4, b5, b6, b7, gi, gl, go, gm, gy, .slice (some ⟨gs, 0, none⟩) (n + 1) (n + 1)⟩ { s with cal := castP (pre ++ [(p, k + 1)]), ll := s.ll.set p ((min lp iq : Nat) : Int), ly := ly' })) (ht : TB tag1 wB tagz wz) (hly : (q = p ∧ ly' = s.ly.set p true) ∨ (q ≠ p ∧ ly' = s.ly)) =>
              HN.out (Tj.mark (Tj.lower t p iq) p q) (pre ++ (p, k + 1) :: []) wz
                ⟨tagz, _, bag_x6 hb HB3.out.x6, HB2.out.trans ht, by
                  have r1 := (HB3.out.lower HPP.out hqs HPQ.out).mark (pre := pre) (post := []) (p := p) (k := k) (q := q) rfl HPQ.out (by rw [hbq]; exact hkb) HDQ.out (by show 0 < t.idx q; omega) (fun _ => by
                    show upd _ _ _ p ≤ t.idx q
                    rw [upd_same]; exact Nat.min_le_right _ _) ly' s.v6 hly
                  rw [hlo, hiq] at r1
                  exact r1, HB4.out.tb ht, HB5.out.tb ht⟩ HX.out
                (ms_mark (A := A) (n := n) (t := Tj.lower t p iq) (pre := pre) (post := []) (p := p) (k := k) (q := q) (by rw [hbq]; exact hkb)))
            have HB6 := hide (hb2.keep (drew_tch _))
            have HT6 := hide (ht2.trans (TB.keep (drew_tch _)))
            clear hb2 ht2 c2 c8 c3 c9 z9 c5 c11 HB1 HB2 HB4 HB5 HN
            dsimp only at HB6 HT6
            generalize (wB.setCell ⟨gl, p, none⟩ (.int .i32 ((min lp iq : Nat) : Int))).drew = wD at *
            by_cases hqp : q = p
            · have e8 : ((q : Int) == (p : Int)) = true := by rw [hqp]; simp
              obtain ⟨y14, hy14⟩ : ∃ y, s.ly[p]? = some y := ⟨s.ly[p]'(by have := HB3.out.ny; dsimp only at this; omega), List.getElem?_eq_getElem _⟩
              have c14 : wD.cell? ⟨gy, p, none⟩ = some (.bool y14) := OwnB.cell (HB6.out.say 14) hy14
              have z14 : wD.frozen? ⟨gy, p, none⟩ = false := OwnB.frozen (HB6.out.say 14) p
              obtain ⟨tag3, hb3, ht3⟩ := put14 HB6.out p true
              have HR := hide (HFIN.out _ _ tag3 hb3 (HT6.out.trans ht3) (.inl ⟨hqp, rfl⟩))
              dsimp only at HR
              clear hb3 ht3 hy14 HFIN HB6 HT6
              go_wp2_with fail
              go_roundw
              case rel => rw [← hcm]; exact HR.out.1
              case measure =>
                have h := HR.out.2
                have e : (Tj.mark (Tj.lower t p iq) p q).comps = t.comps := rfl
                rw [e, hcm] at h
                rw [hcm]
                exact h
            · have e8 : ((q : Int) == (p : Int)) = false := by rw [beq_eq_false_iff_ne]; omega
              have HR := hide (HFIN.out wD s.ly tag2 HB6.out HT6.out (.inr ⟨hqp, rfl⟩))
              clear HFIN HB6 HT6
              go_wp2_with fail
              go_roundw
              case rel => rw [← hcm]; exact HR.out.1
              case measure =>
                have h := HR.out.2
                have e : (Tj.mark (Tj.lower t p iq) p q).comps = t.comps := rfl
                rw [e, hcm] at h
                rw [hcm]
                exact h
          | false =>
            have hqs : q ∉ t.stk := fun h => by have := HBI.out.2 h; cases this
            have hqp : q ≠ p := fun e => hqs (by rw [e]; exact HB3.out.inv.sub p HPP.out)
            have e8 : ((q : Int) == (p : Int)) = false := by rw [beq_eq_false_iff_ne]; omega
            have HR := hide (HN.out (Tj.mark t p q) (pre ++ (p, k + 1) :: []) wB
                ⟨tag1, _, bag_x6 HB1.out HB3.out.x6, HB2.out, HB3.out.mark (pre := pre) (post := []) (p := p) (k := k) (q := q) rfl HPQ.out (by rw [hbq]; exact hkb) HDQ.out (by omega) (fun h => absurd h hqs) s.ly s.v6 (.inr ⟨hqp, rfl⟩), HB4.out, HB5.out⟩ HX.out
                (ms_mark (A := A) (n := n) (t := t) (pre := pre) (post := []) (p := p) (k := k) (q := q) (by rw [hbq]; exact hkb)))
            clear HN HB1 HB2 HB4 HB5
            generalize t.idx q = iq at *
            generalize hcm : t.comps = cm at *
            go_wp2_with fail
            go_roundw
            case rel => rw [← hcm]; exact HR.out.1
            case measure =>
              have h := HR.out.2
              have e : (Tj.mark t p q).comps = t.comps := rfl
              rw [e, hcm] at h
              rw [hcm]
              exact h
      · have e4 : decide ((k : Int) < (bq : Int)) = false := by simp; omega
        have hq6 : L + 1 ≤ q6 := by
          rcases HO12.out.form with ⟨e, _⟩ | ⟨g, cap, e, _, _, h1, _⟩
          · cases e
          · have h2 := HO12.out.len
            injection e with _ e1 e2
            omega
        go_upto_region 17 with fail
        go_quiet (fail)
        have HB1a := hide (HB1.out.keep (drewN_tch wr nq))
        have HB2a := hide (HB2.out.trans (TB.keep (drewN_tch wr nq)))
        have HB4a := hide (RO.keep HB4.out (drewN_tch wr nq))
        have HB5a := hide (RO.keep HB5.out (drewN_tch wr nq))
        have HOa := hide (HO12.out.keep (drewN_tch wr nq))
        clear HB1 HB2 HB4 HB5 HO12 c6 cp ck c7 cst e4
        generalize wr.drewN nq = wA at *
        have c6 : wA.cell? ⟨b6, 0, none⟩ = some (.slice (some ⟨g6, 0, none⟩) (L + 1) q6) := by
          rw [← HE6.out, ← HB3.out.x6]; exact Blk.cell (HB1a.out.say 6) 0
        have z6 : wA.frozen? ⟨b6, 0, none⟩ = false := Blk.frozen (HB1a.out.say 6) 0
        have ocut := HOa.out.cut L (by rw [castP_len]; simp; omega)
        rw [← hL, castP_take, hL] at ocut
        obtain ⟨tag1, hb1, ht1⟩ := put12 (v := .slice (some ⟨g6, 0, none⟩) L q6) HB1a.out (Tch.refl _ _) ocut (fun g hg => .inl (by rw [HE6.out]; exact hg))
        obtain ⟨tag2, hb2, ht2⟩ := put6 hb1 (.slice (some ⟨g6, 0, none⟩) L q6)
        have HBD := hide hb2
        have HTD := hide (HB2a.out.trans (ht1.trans ht2))
        have HB4D := hide ((HB4a.out.tb ht1).tb ht2)
        have HB5D := hide ((HB5a.out.tb ht1).tb ht2)
        clear hb1 ht1 hb2 ht2 ocut HB1a HB2a HB4a HB5a HOa
        dsimp only at HBD HTD HB4D HB5D
        go_upto_region 27 with fail
        generalize wA.setCell ⟨b6, 0, none⟩ (.slice (some ⟨g6, 0, none⟩) L q6) = wD at *
        clear c6 z6
        have c6 : wD.cell? ⟨b6, 0, none⟩ = some (.slice (some ⟨g6, 0, none⟩) L q6) := Blk.cell (HBD.out.say 6) 0
        have hbq' := hbq
        rcases List.eq_nil_or_concat pre with hp2 | ⟨pre2, ⟨cl, kc⟩, hp2⟩
        · have hL0 : L = 0 := by rw [← hL, hp2]; rfl
          subst hL0
          obtain ⟨tagE, htagE⟩ : ∃ x, x = tag2 := ⟨_, rfl⟩
          subst htagE
          have HBE := HBD
          have HTE := HTD
          have HB4E := HB4D
          have HB5E := HB5D
          obtain ⟨ll', hll'⟩ : ∃ l, l = s.ll := ⟨_, rfl⟩
          have HLL := hide (show ll'.length = n ∧ ∀ x, x < n → ll'[x]? = some (((Tj.leave t (pre.map Prod.fst) p).low x : Nat) : Int) from by
            subst hll'
            refine ⟨HB3.out.nl, ?_⟩
            rw [hp2]
            exact low_nil HB3.out.low)
          have HBE := hide (show Bag wD tagE (T ⟨b7, n, b1, b2, b3, b4, b5, b6, b7, gi, gl, go, gm, gy, .slice (some ⟨gs, 0, none⟩) (n + 1) (n + 1)⟩ { s with cal := castP pre, v6 := .slice (some ⟨g6, 0, none⟩) pre.length q6, x6 := .slice (some ⟨g6, 0, none⟩) pre.length q6, ll := ll' }) from by
            subst hll'
            rw [hL]
            exact HBD.out)
          clear hll' HBD HTD HB4D HB5D
          generalize wD = wE at *
          go_upto_region 30 with fail
          have hnin := HB3.out.notin
          have hlself : (Tj.leave t (pre.map Prod.fst) p).low p = t.low p := leave_self hnin
          have hL1 := (HB3.out.inv.l1 p HPP.out).1
          have hL2 := HB3.out.inv.le p
          have c2 : wE.cell? ⟨b2, 0, none⟩ = some (.slice (some ⟨gi, 0, none⟩) n n) := Blk.cell (HBE.out.say 2) 0
          have c3 : wE.cell? ⟨b3, 0, none⟩ = some (.slice (some ⟨gl, 0, none⟩) n n) := Blk.cell (HBE.out.say 3) 0
          have c8 : wE.cell? ⟨gi, p, none⟩ = some (.int .i32 ((t.idx p : Nat) : Int)) := Own.at (HBE.out.say 8) (HB3.out.idx p hpn)
          have c9 : wE.cell? ⟨gl, p, none⟩ = some (.int .i32 ((t.low p : Nat) : Int)) := by
            rw [← hlself]
            exact Own.at (HBE.out.say 9) (HLL.out.2 p hpn)
          clear hnin hlself
          by_cases hlw : t.low p = t.idx p
          · have e10 : (((t.low p : Nat) : Int) != ((t.idx p : Nat) : Int)) = false := by rw [hlw]; simp
            obtain ⟨sa, sb, hsplit⟩ := List.append_of_mem (HB3.out.inv.sub p HPP.out)
            have HSP := hide hsplit
            clear hsplit
            obtain ⟨a4, n4, c4, e4'⟩ := Own.slice (HBE.out.say 10)
            have o10 : Own .i32 21 wE b7 (.slice a4 n4 c4) (castN t.stk) := by
              have := HBE.out.say 10
              rw [← e4', ← HB3.out.stk]
              exact this
            have hn4 : n4 = sa.length + (sb.length + 1) := by
              have h1 := o10.len
              rw [castN_len, HSP.out] at h1
              simp at h1
              omega
            obtain ⟨g4, e44⟩ : ∃ g4, a4 = some ⟨g4, 0, none⟩ := by
              rcases o10.form with ⟨e, _⟩ | ⟨g, cap, e, _⟩
              · cases e; omega
              · injection e with e1; exact ⟨g, e1⟩
            subst e44
            have hn44 : n4 ≤ c4 := by
              rcases o10.form with ⟨e, _⟩ | ⟨g, cap, e, _, _, h1, _⟩
              · cases e
              · have h2 := o10.len
                injection e with _ e1 e2
                omega
            have hn45 : n4 ≤ 1000 := by have h1 := o10.len; rw [castN_len] at h1; omega
            have hv4 : s.v4 = .slice (some ⟨g4, 0, none⟩) n4 c4 := e4'
            have c4b : wE.cell? ⟨b4, 0, none⟩ = some (.slice (some ⟨g4, 0, none⟩) n4 c4) := by
              rw [← hv4, ← HB3.out.x4]
              exact Blk.cell (HBE.out.say 4) 0
            have HV4 := hide hv4
            have HO10 := hide o10
            clear e4' o10 hv4
            generalize hla : sa.length = la at *
            generalize hlb : sb.length = lb at *
            subst hn4
            have HLW := hide hlw
            clear hlw
            generalize hlpp : t.low p = lp at *
            generalize hipp : t.idx p = ip at *
            go_upto_region 30 with fail
            go_quiet (fail)
            have HBG := hide (HBE.out.keep (drewN_tch wE nq))
            have HTG := hide (HTE.out.trans (TB.keep (drewN_tch wE nq)))
            have HOG := hide (HO10.out.keep (drewN_tch wE nq))
            have HB4G := hide (RO.keep HB4E.out (drewN_tch wE nq))
            have HB5G := hide (RO.keep HB5E.out (drewN_tch wE nq))
            have c4c : (wE.drewN nq).cell? ⟨b4, 0, none⟩ = some (.slice (some ⟨g4, 0, none⟩) (la + (lb + 1)) c4) := c4b
            clear HBE HTE HO10 c4b c2 c3 c8 c9 e10 HB4E HB5E
            generalize wE.drewN nq = wG at *
            go_upto_region 31 with fail
            generalize hcm : t.comps = cm at *
            go_wp2_with fail
            have hatS : ∀ j, j < lb + 1 → ∃ x, (p :: sb)[j]? = some x ∧ (castN t.stk)[la + j]? = some (x : Int) ∧ x < n ∧ (x = p ↔ j = 0) := by
              intro j hj
              obtain ⟨x, hx⟩ : ∃ x, (p :: sb)[j]? = some x := ⟨(p :: sb)[j]'(by simp; omega), List.getElem?_eq_getElem _⟩
              have hmem : x ∈ p :: sb := List.mem_of_getElem? hx
              have hxs : x ∈ t.stk := by rw [HSP.out]; exact List.mem_append_right _ hmem
              refine ⟨x, hx, castN_at (by rw [HSP.out, ← hla, split_at]; exact hx), HB3.out.out x (HB3.out.inv.pos x hxs), ?_⟩
              constructor
              · intro e
                match j, hx with
                | 0, _ => rfl
                | j + 1, hx =>
                  have h1 := HB3.out.inv.srt
                  rw [HSP.out] at h1
                  have h2 := (List.pairwise_cons.1 (List.pairwise_append.1 h1).2.1).1 x (List.mem_of_getElem? (by simpa using hx))
                  rw [e] at h2
                  omega
              · intro e
                subst e
                have := hx
                simp at this
                exact this.symm
            have HAS := hide hatS
            clear hatS
            go_loopw [22] (fun v wq => ∃ i : Nat, la ≤ i ∧ i < la + (lb + 1) ∧ v = .int .i64 (i : Int) ∧ wq = wG) (fun v _ => (intOf v).toNat)
            case atStart => exact ⟨la + lb, by omega, by omega, by first | rfl | go_num, rfl⟩
            case round =>
              obtain ⟨i, hi1, hi2, rfl, hwr⟩ := hrel
              subst hwr
              obtain ⟨x, hx1, hx2, hx3, hx4⟩ := HAS.out (i - la) (by omega)
              rw [show la + (i - la) = i by omega] at hx2
              have cst := HOG.out.at hx2
              have e12 : (i : Int) < (la : Int) + ((lb : Int) + 1) := by omega
              by_cases hj0 : i = la
              · have e11 : ((x : Int) != (p : Int)) = false := by rw [hx4.2 (by omega)]; simp
                clear hx4 hx1 hx2
                obtain rfl : la = i := hj0.symm
                go_upto_region 34 with fail
                clear cst
                go_wp2_with fail
                generalize wr = wH at *
                have c0 := Cl.start (seg := p :: sb) (two := sb ≠ []) HB3.out
                have HCL0 := hide (show Clo wH tagE ⟨b7, n, b1, b2, b3, b4, b5, b6, b7, gi, gl, go, gm, gy, .slice (some ⟨gs, 0, none⟩) (n + 1) (n + 1)⟩ { s with cal := castP pre, v6 := .slice (some ⟨g6, 0, none⟩) pre.length q6, x6 := .slice (some ⟨g6, 0, none⟩) pre.length q6, ll := ll' } n t (p :: sb) (sb ≠ []) 0 wH from ⟨tagE, s.lm, s.lo, s.ly, HBG.out, TB.refl _ _, ⟨c0.com, c0.cyc, c0.ons, c0.nm, c0.ny, c0.no⟩⟩)
                clear c0 e11 e12 hx3
                go_loopw [171] (fun v wq => ∃ j : Nat, j ≤ lb + 1 ∧ v = .int .i64 (j : Int) ∧ Clo wH tagE ⟨b7, n, b1, b2, b3, b4, b5, b6, b7, gi, gl, go, gm, gy, .slice (some ⟨gs, 0, none⟩) (n + 1) (n + 1)⟩ { s with cal := castP pre, v6 := .slice (some ⟨g6, 0, none⟩) pre.length q6, x6 := .slice (some ⟨g6, 0, none⟩) pre.length q6, ll := ll' } n t (p :: sb) (sb ≠ []) j wq) (fun v _ => lb + 1 - (intOf v).toNat)
                case atStart => exact ⟨0, Nat.zero_le _, rfl, HCL0.out⟩
                case round =>
                  clear HCL0
                  obtain ⟨j, hj, rfl, tagq, lm, lo, ly, hbq2, htq, hcl⟩ := hrel
                  by_cases hjl : j < lb + 1
                  · obtain ⟨q, hq1, hq2, hq3, hq4⟩ := HAS.out j hjl
                    have cst : wr.cell? ⟨g4, la + j, none⟩ = some (.int .i32 (q : Int)) := by
                      have o : Own .i32 21 wr b7 (.slice (some ⟨g4, 0, none⟩) (la + (lb + 1)) c4) (castN t.stk) := by
                        rw [← HV4.out, ← HB3.out.stk]; exact hbq2.say 10
                      exact o.at hq2
                    have hny : ly.length = n := hcl.ny
                    have hnm : lm.length = n := hcl.nm
                    have hno : lo.length = n := hcl.no
                    obtain ⟨y, hy⟩ : ∃ y, ly[q]? = some y := ⟨ly[q]'(by omega), List.getElem?_eq_getElem _⟩
                    obtain ⟨yo, hyo⟩ : ∃ y, lo[q]? = some y := ⟨lo[q]'(by omega), List.getElem?_eq_getElem _⟩
                    have c5 : wr.cell? ⟨b5, 0, none⟩ = some (.slice (some ⟨go, 0, none⟩) n n) := Blk.cell (hbq2.say 5) 0
                    obtain ⟨ym, hym, cgm⟩ := Own.cell (hbq2.say 13) (i := q) (by dsimp only; omega)
                    have zgm : wr.frozen? ⟨gm, q, none⟩ = false := Own.frozen (hbq2.say 13) q
                    have cgo : wr.cell? ⟨go, q, none⟩ = some (.bool yo) := OwnB.cell (hbq2.say 11) hyo
                    have zgo : wr.frozen? ⟨go, q, none⟩ = false := OwnB.frozen (hbq2.say 11) q
                    obtain ⟨tag13, hb13, ht13⟩ := put13 hbq2 q (cm : Int)
                    have d5 : (wr.setCell ⟨gm, q, none⟩ (.int .i32 (cm : Int))).cell? ⟨b5, 0, none⟩ = some (.slice (some ⟨go, 0, none⟩) n n) := Blk.cell (hb13.say 5) 0
                    have dgo : (wr.setCell ⟨gm, q, none⟩ (.int .i32 (cm : Int))).cell? ⟨go, q, none⟩ = some (.bool yo) := OwnB.cell (hb13.say 11) hyo
                    have dzo : (wr.setCell ⟨gm, q, none⟩ (.int .i32 (cm : Int))).frozen? ⟨go, q, none⟩ = false := OwnB.frozen (hb13.say 11) q
                    obtain ⟨tag11, hb11, ht11⟩ := put11 hb13 q false
                    dsimp only at hb11 ht11 cgm
                    have P1 := hide (And.intro hb11 (ht13.trans ht11))
                    have HCL := hide hcl
                    have HTQ := hide htq
                    have HQ1 := hide hq1
                    have HY := hide hy
                    clear hb13 ht13 hb11 ht11 hbq2 htq hcl hym hyo hq1 hq2 hq4 hny hnm hno hy
                    have e13 : (q : Int) < (n : Int) := by omega
                    go_upto_region 37 with fail
                    go_cut [24, 171] from 171 to 196 (fun v vj wx => v = .int .i32 (q : Int) ∧ vj = .int .i64 (j : Int) ∧ ∃ tag', Bag wx tag' (T ⟨b7, n, b1, b2, b3, b4, b5, b6, b7, gi, gl, go, gm, gy, .slice (some ⟨gs, 0, none⟩) (n + 1) (n + 1)⟩ { ({ s with cal := castP pre, v6 := .slice (some ⟨g6, 0, none⟩) pre.length q6, x6 := .slice (some ⟨g6, 0, none⟩) pre.length q6, ll := ll' } : CV) with lm := lm.set q (cm : Int), lo := lo.set q false, ly := ly }) ∧ TB tagq wr tag' wx)
                    case first =>
                      go_region
                      all_goals
                        go_wp2_with fail
                        go_meet
                        case rel =>
                          obtain ⟨q1, q2⟩ := P1.out
                          exact ⟨rfl, rfl, _, q1.keep ⟨rfl, rfl, rfl, Nat.le_refl _, fun _ _ _ => rfl⟩, q2.trans (TB.keep ⟨rfl, rfl, rfl, Nat.le_refl _, fun _ _ _ => rfl⟩)⟩
                    case rest =>
                      obtain ⟨rfl, rfl, tag3, hb3, ht3⟩ := hcut
                      clear P1 c5 cgm zgm cgo zgo d5 dgo dzo cst
                      have c14 : wc.cell? ⟨gy, q, none⟩ = some (.bool y) := OwnB.cell (hb3.say 14) HY.out
                      have z14 : wc.frozen? ⟨gy, q, none⟩ = false := OwnB.frozen (hb3.say 14) q
                      have c4d : wc.cell? ⟨b4, 0, none⟩ = some (.slice (some ⟨g4, 0, none⟩) (la + (lb + 1)) c4) := by
                        rw [← HV4.out, ← HB3.out.x4]; exact Blk.cell (hb3.say 4) 0
                      have HFI := hide (fun (yc : Bool) (hyc : yc = true ↔ (y = true ∨ sb ≠ [])) => (show Clo wH tagE ⟨b7, n, b1, b2, b3, b4, b5, b6, b7, gi, gl, go, gm, gy, .slice (some ⟨gs, 0, none⟩) (n + 1) (n + 1)⟩ { s with cal := castP pre, v6 := .slice (some ⟨g6, 0, none⟩) pre.length q6, x6 := .slice (some ⟨g6, 0, none⟩) pre.length q6, ll := ll' } n t (p :: sb) (sb ≠ []) (j + 1) (wc.setCell ⟨gy, q, none⟩ (.bool yc)) from by
                        obtain ⟨tag4, hb4, ht4⟩ := put14 hb3 q yc
                        refine ⟨tag4, _, _, _, hb4, (HTQ.out.trans ht3).trans ht4, ?_⟩
                        have := HCL.out.step HQ1.out hq3 HY.out hyc
                        rw [hcm] at this
                        exact this))
                      clear hb3 ht3
                      cases y with
                      | true =>
                        go_wp2_with fail
                        go_roundw
                        case rel => exact ⟨j + 1, by omega, by go_num, HFI.out true (by simp)⟩
                        case measure => simp [intOf]; omega
                      | false =>
                        by_cases hl0 : lb = 0
                        · have hsb : sb = [] := List.length_eq_zero_iff.1 (by omega)
                          have e14 : decide (1 < (la : Int) + ((lb : Int) + 1) - (la : Int)) = false := by simp; omega
                          have HL0 := hide hl0
                          clear hl0
                          go_wp2_with fail
                          go_roundw
                          case rel => exact ⟨j + 1, by omega, by go_num, HFI.out false (by simp [hsb])⟩
                          case measure => simp [intOf]; omega
                        · have hsb : sb ≠ [] := fun e => hl0 (by rw [← hlb, e]; rfl)
                          have e14 : decide (1 < (la : Int) + ((lb : Int) + 1) - (la : Int)) = true := by simp; omega
                          go_wp2_with fail
                          go_roundw
                          case rel => exact ⟨j + 1, by omega, by go_num, HFI.out true (by simp [hsb])⟩
                          case measure => simp [intOf]; omega
                  · obtain rfl : j = lb + 1 := by omega
                    have c4d : wr.cell? ⟨b4, 0, none⟩ = some (.slice (some ⟨g4, 0, none⟩) (la + (lb + 1)) c4) := by
                      rw [← HV4.out, ← HB3.out.x4]; exact Blk.cell (hbq2.say 4) 0
                    have z4d : wr.frozen? ⟨b4, 0, none⟩ = false := Blk.frozen (hbq2.say 4) 0
                    have o : Own .i32 21 wr b7 (.slice (some ⟨g4, 0, none⟩) (la + (lb + 1)) c4) (castN t.stk) := by
                      rw [← HV4.out, ← HB3.out.stk]; exact hbq2.say 10
                    have oc := o.cut la (by rw [castN_len, HSP.out]; simp; omega)
                    rw [HSP.out, ← hla, split_take, hla] at oc
                    obtain ⟨tag5, hb5, ht5⟩ := put10 (v := .slice (some ⟨g4, 0, none⟩) la c4) hbq2 (Tch.refl _ _) oc (fun g hg => .inl (by
                      show s.v4.ownBlock = some g
                      rw [HV4.out]; exact hg))
                    obtain ⟨tag6, hb6, ht6⟩ := put4 hb5 (.slice (some ⟨g4, 0, none⟩) la c4)
                    have ht7 := (htq.trans ht5).trans ht6
                    have HR := hide (HN.out (Tj.close t (pre.map Prod.fst) sa p sb) pre (wr.setCell ⟨b4, 0, none⟩ (.slice (some ⟨g4, 0, none⟩) la c4))
                      ⟨tag6, _, hb6, HTG.out.trans ht7, HB3.out.close (s' := { ({ s with cal := castP pre, v6 := .slice (some ⟨g6, 0, none⟩) pre.length q6, x6 := .slice (some ⟨g6, 0, none⟩) pre.length q6, ll := ll' } : CV) with lm := lm, lo := lo, ly := ly }) HC.out rfl (by rw [hbq]; exact hkb) (by rw [hlpp, hipp]; exact HLW.out) HSP.out ll' (.slice (some ⟨g6, 0, none⟩) pre.length q6) (.slice (some ⟨g4, 0, none⟩) la c4) HLL.out.1 HLL.out.2 (by
                        have e : (p :: sb).length = lb + 1 := by simp [hlb]
                        rw [e]
                        exact hcl), HB4G.out.tb ht7, HB5G.out.tb ht7⟩ HX.out ms_close)
                    clear hb5 ht5 hb6 ht6 ht7 oc o hbq2 htq hcl
                    try dsimp only at HR
                    go_wp2_with fail
                    go_roundw
                    case rel =>
                      have h := HR.out.1
                      have e : ((Tj.close t (pre.map Prod.fst) sa p sb).comps : Int) = (cm : Int) + 1 := by rw [← hcm]; rfl
                      rw [e] at h
                      exact h
                    case measure =>
                      have h := HR.out.2
                      have e : ((Tj.close t (pre.map Prod.fst) sa p sb).comps : Int) = (cm : Int) + 1 := by rw [← hcm]; rfl
                      rw [e] at h
                      rw [hcm]
                      exact h
              · have e11 : ((x : Int) != (p : Int)) = true := by
                  rw [bne_iff_ne]
                  intro e
                  exact hj0 (by have := hx4.1 (by omega); omega)
                clear hx4 hx1 hx2
                go_wp2_with fail
                go_roundw
                case rel => exact ⟨i - 1, by omega, by omega, by congr 1; omega, by first | rfl | trivial⟩
                case measure => simp [intOf]; omega
          · have e10 : (((t.low p : Nat) : Int) != ((t.idx p : Nat) : Int)) = true := by rw [bne_iff_ne]; omega
            have HR := hide (fun wz (tz : Tch Non wE wz) => HN.out (Tj.leave t (pre.map Prod.fst) p) pre wz
              ⟨tagE, _, HBE.out.keep tz, HTE.out.trans (TB.keep tz), HB3.out.leave HC.out rfl (by rw [hbq]; exact hkb) (by omega) ll' (.slice (some ⟨g6, 0, none⟩) pre.length q6) HLL.out.1 HLL.out.2, HB4E.out.tb (TB.keep tz), HB5E.out.tb (TB.keep tz)⟩ HX.out ms_leave)
            clear HN HBE HTE HB4E HB5E
            generalize t.low p = lp at *
            generalize t.idx p = ip at *
            generalize hcm : t.comps = cm at *
            go_upto_region 30 with fail
            go_quiet (fail)
            go_wp2_with fail
            go_roundw
            case rel => rw [← hcm]; exact (HR.out _ (drewN_tch wE nq)).1
            case measure =>
              have h := (HR.out _ (drewN_tch wE nq)).2
              have e : (Tj.leave t (pre.map Prod.fst) p).comps = t.comps := rfl
              rw [e, hcm] at h
              rw [hcm]
              exact h
        · have hp2' : pre = pre2 ++ [(cl, kc)] := by simpa using hp2
          have hL2 : L = pre2.length + 1 := by rw [← hL, hp2']; simp
          subst hL2
          have hcm2 : cl ∈ t.path := by rw [HB3.out.path, hp2']; simp
          have hcn : cl < n := HB3.out.out cl (HB3.out.inv.pos cl (HB3.out.inv.sub cl hcm2))
          have hlcl : t.low cl ≤ 1000 := by have := (HB3.out.inv.l1 cl hcm2).1; have := HB3.out.inv.le cl; omega
          have hlpl : t.low p ≤ 1000 := by have := (HB3.out.inv.l1 p HPP.out).1; have := HB3.out.inv.le p; omega
          have oD : Own2 111 wD b7 (.slice (some ⟨g6, 0, none⟩) (pre2.length + 1) q6) (castP (pre2 ++ [(cl, kc)])) := by
            rw [← hp2']; exact HBD.out.say 12
          have hat2 : (castP (pre2 ++ [(cl, kc)]))[pre2.length]? = some ((cl : Int), (kc : Int)) := by
            rw [castP_snoc, List.getElem?_append_right (by rw [castP_len]; exact Nat.le_refl _), castP_len]; simp
          have ccl := (oD.at hat2).1
          dsimp only at ccl
          have c3 : wD.cell? ⟨b3, 0, none⟩ = some (.slice (some ⟨gl, 0, none⟩) n n) := Blk.cell (HBD.out.say 3) 0
          have c9c : wD.cell? ⟨gl, cl, none⟩ = some (.int .i32 ((t.low cl : Nat) : Int)) := Own.at (HBD.out.say 9) (HB3.out.low cl hcn)
          have z9c : wD.frozen? ⟨gl, cl, none⟩ = false := Own.frozen (HBD.out.say 9) cl
          have c9 : wD.cell? ⟨gl, p, none⟩ = some (.int .i32 ((t.low p : Nat) : Int)) := Own.at (HBD.out.say 9) (HB3.out.low p hpn)
          have e9 : (p : Int) < (n : Int) := by omega
          have e9c : (cl : Int) < (n : Int) := by omega
          clear oD hat2
          generalize hL2' : pre2.length = L2 at *
          generalize hlo : t.low p = lp at *
          generalize hloc : t.low cl = lc at *
          go_upto_region 29 with fail
          have hC0 : (fun w' : World => w'.cell? ⟨b3, 0, none⟩ = some (.slice (some ⟨gl, 0, none⟩) n n) ∧ w'.cell? ⟨gl, cl, none⟩ = some (.int .i32 (lc : Int)) ∧ w'.cell? ⟨gl, p, none⟩ = some (.int .i32 (lp : Int))) wD.drew := ⟨c3, c9c, c9⟩
          refine Ord.AnyC.begin (C := (fun w' : World => w'.cell? ⟨b3, 0, none⟩ = some (.slice (some ⟨gl, 0, none⟩) n n) ∧ w'.cell? ⟨gl, cl, none⟩ = some (.int .i32 (lc : Int)) ∧ w'.cell? ⟨gl, p, none⟩ = some (.int .i32 (lp : Int)))) (z := 12) (by kernel_rfl) ?_
          refine Ord.AnyC.take (i := 0) (oi := { dst := some 135, op := Op.load 23 (Operand.tmp 8), type := 23, pos := "walk.go:855", after := #[], guard := none }) (v := .slice (some ⟨gl, 0, none⟩) n n) rfl (by kernel_rfl) (by kernel_rfl) (by kernel_rfl) (by kernel_rfl) (by kernel_rfl) (fun c a w h => HQ.out c a _ _ w h) (Or.inl ⟨by rfl, fun w0 hSw => by (try dsimp only at hSw); go_simp⟩) hC0 ?_
          try simp only [Act.put, List.setIfInBounds_toArray, List.set_cons_zero, List.set_cons_succ]
          refine Ord.AnyC.takeP (i := 1) (oi := { dst := some 136, op := Op.move (Operand.tmp 21), type := 21, pos := "walk.go:855", after := #[], guard := none }) (v := .int .i32 (cl : Int)) rfl (by kernel_rfl) (by kernel_rfl) (by kernel_rfl) (by decide) (fun c a w h => HQ.out c a _ _ w h) (Or.inl ⟨by rfl, fun w0 _ => by go_simp⟩) (fun _ => hC0) ?_
          try simp only [Act.put, List.setIfInBounds_toArray, List.set_cons_zero, List.set_cons_succ]
          refine Ord.AnyC.take (i := 2) (oi := { dst := some 137, op := Op.load 23 (Operand.tmp 8), type := 23, pos := "walk.go:855", after := #[], guard := none }) (v := .slice (some ⟨gl, 0, none⟩) n n) rfl (by kernel_rfl) (by kernel_rfl) (by kernel_rfl) (by kernel_rfl) (by kernel_rfl) (fun c a w h => HQ.out c a _ _ w h) (Or.inl ⟨by rfl, fun w0 hSw => by (try dsimp only at hSw); go_simp⟩) hC0 ?_
          try simp only [Act.put, List.setIfInBounds_toArray, List.set_cons_zero, List.set_cons_succ]
          refine Ord.AnyC.takeP (i := 3) (oi := { dst := some 138, op := Op.move (Operand.tmp 21), type := 21, pos := "walk.go:855", after := #[], guard := none }) (v := .int .i32 (cl : Int)) rfl (by kernel_rfl) (by kernel_rfl) (by kernel_rfl) (by decide) (fun c a w h => HQ.out c a _ _ w h) (Or.inl ⟨by rfl, fun w0 _ => by go_simp⟩) (fun _ => hC0) ?_
          try simp only [Act.put, List.setIfInBounds_toArray, List.set_cons_zero, List.set_cons_succ]
          refine Ord.AnyC.takeP (i := 4) (oi := { dst := some 139, op := Op.indexAddr 23 (Operand.tmp 137) (Operand.tmp 138), type := 0, pos := "walk.go:855", after := #[{ on := 2, ground := Ground.data }, { on := 3, ground := Ground.data }], guard := none }) (v := .pointer (some ⟨gl, cl, none⟩)) rfl (by kernel_rfl) (by kernel_rfl) (by kernel_rfl) (by decide) (fun c a w h => HQ.out c a _ _ w h) (Or.inl ⟨by rfl, fun w0 _ => by go_simp⟩) (fun _ => hC0) ?_
          try simp only [Act.put, List.setIfInBounds_toArray, List.set_cons_zero, List.set_cons_succ]
          refine Ord.AnyC.take (i := 5) (oi := { dst := some 140, op := Op.load 21 (Operand.tmp 139), type := 21, pos := "walk.go:855", after := #[{ on := 4, ground := Ground.data }], guard := none }) (v := .int .i32 (lc : Int)) rfl (by kernel_rfl) (by kernel_rfl) (by kernel_rfl) (by kernel_rfl) (by kernel_rfl) (fun c a w h => HQ.out c a _ _ w h) (Or.inl ⟨by rfl, fun w0 hSw => by (try dsimp only at hSw); go_simp⟩) hC0 ?_
          try simp only [Act.put, List.setIfInBounds_toArray, List.set_cons_zero, List.set_cons_succ]
          refine Ord.AnyC.take (i := 6) (oi := { dst := some 141, op := Op.load 23 (Operand.tmp 8), type := 23, pos := "walk.go:855", after := #[], guard := none }) (v := .slice (some ⟨gl, 0, none⟩) n n) rfl (by kernel_rfl) (by kernel_rfl) (by kernel_rfl) (by kernel_rfl) (by kernel_rfl) (fun c a w h => HQ.out c a _ _ w h) (Or.inl ⟨by rfl, fun w0 hSw => by (try dsimp only at hSw); go_simp⟩) hC0 ?_
          try simp only [Act.put, List.setIfInBounds_toArray, List.set_cons_zero, List.set_cons_succ]
          refine Ord.AnyC.takeP (i := 7) (oi := { dst := some 142, op := Op.move (Operand.tmp 19), type := 21, pos := "walk.go:855", after := #[], guard := none }) (v := .int .i32 (p : Int)) rfl (by kernel_rfl) (by kernel_rfl) (by kernel_rfl) (by decide) (fun c a w h => HQ.out c a _ _ w h) (Or.inl ⟨by rfl, fun w0 _ => by go_simp⟩) (fun _ => hC0) ?_
          try simp only [Act.put, List.setIfInBounds_toArray, List.set_cons_zero, List.set_cons_succ]
          refine Ord.AnyC.takeP (i := 8) (oi := { dst := some 143, op := Op.indexAddr 23 (Operand.tmp 141) (Operand.tmp 142), type := 0, pos := "walk.go:855", after := #[{ on := 6, ground := Ground.data }, { on := 7, ground := Ground.data }], guard := none }) (v := .pointer (some ⟨gl, p, none⟩)) rfl (by kernel_rfl) (by kernel_rfl) (by kernel_rfl) (by decide) (fun c a w h => HQ.out c a _ _ w h) (Or.inl ⟨by rfl, fun w0 _ => by go_simp⟩) (fun _ => hC0) ?_
          try simp only [Act.put, List.setIfInBounds_toArray, List.set_cons_zero, List.set_cons_succ]
          refine Ord.AnyC.take (i := 9) (oi := { dst := some 144, op := Op.load 21 (Operand.tmp 143), type := 21, pos := "walk.go:855", after := #[{ on := 8, ground := Ground.data }], guard := none }) (v := .int .i32 (lp : Int)) rfl (by kernel_rfl) (by kernel_rfl) (by kernel_rfl) (by kernel_rfl) (by kernel_rfl) (fun c a w h => HQ.out c a _ _ w h) (Or.inl ⟨by rfl, fun w0 hSw => by (try dsimp only at hSw); go_simp⟩) hC0 ?_
          try simp only [Act.put, List.setIfInBounds_toArray, List.set_cons_zero, List.set_cons_succ]
          refine Ord.AnyC.takeP (i := 10) (oi := { dst := some 145, op := Op.call { callee := Callee.builtin Builtin.min, args := #[Operand.tmp 140, Operand.tmp 144], argTypes := #[21, 21] }, type := 21, pos := "walk.go:855", after := #[{ on := 5, ground := Ground.data }, { on := 9, ground := Ground.data }], guard := none }) (v := .int .i32 (if lp < lc then (lp : Int) else (lc : Int))) rfl (by kernel_rfl) (by kernel_rfl) (by kernel_rfl) (by decide) (fun c a w h => HQ.out c a _ _ w h) (Or.inl ⟨by rfl, fun w0 _ => by go_simp⟩) (fun _ => hC0) ?_
          try simp only [Act.put, List.setIfInBounds_toArray, List.set_cons_zero, List.set_cons_succ]
          refine Ord.AnyC.takeP (i := 11) (oi := { dst := some 146, op := Op.indexAddr 23 (Operand.tmp 135) (Operand.tmp 136), type := 0, pos := "walk.go:855", after := #[{ on := 0, ground := Ground.data }, { on := 1, ground := Ground.data }, { on := 0, ground := Ground.phase }, { on := 1, ground := Ground.phase }, { on := 2, ground := Ground.phase }, { on := 3, ground := Ground.phase }, { on := 4, ground := Ground.phase }, { on := 5, ground := Ground.phase }, { on := 6, ground := Ground.phase }, { on := 7, ground := Ground.phase }, { on := 8, ground := Ground.phase }, { on := 9, ground := Ground.phase }, { on := 10, ground := Ground.phase }], guard := none }) (v := .pointer (some ⟨gl, cl, none⟩)) rfl (by kernel_rfl) (by kernel_rfl) (by kernel_rfl) (by decide) (fun c a w h => HQ.out c a _ _ w h) (Or.inl ⟨by rfl, fun w0 _ => by go_simp⟩) (fun _ => hC0) ?_
          try simp only [Act.put, List.setIfInBounds_toArray, List.set_cons_zero, List.set_cons_succ]
          refine Ord.AnyC.one (i := 12) (o := { dst := none, op := Op.store 21 (Operand.tmp 146) (Operand.tmp 145), type := 0, pos := "walk.go:855", after := #[{ on := 11, ground := Ground.data }, { on := 10, ground := Ground.data }, { on := 0, ground := Ground.phase }, { on := 1, ground := Ground.phase }, { on := 2, ground := Ground.phase }, { on := 3, ground := Ground.phase }, { on := 4, ground := Ground.phase }, { on := 5, ground := Ground.phase }, { on := 6, ground := Ground.phase }, { on := 7, ground := Ground.phase }, { on := 8, ground := Ground.phase }, { on := 9, ground := Ground.phase }, { on := 10, ground := Ground.phase }], guard := none }) (by kernel_rfl) rfl (fun K hK => ?_)
          replace hK := hide hK
          go_simp
          refine hK.out _ _ (fun h => absurd rfl h) ?_
          clear hK K hC0
          try simp only [Act.put, List.setIfInBounds_toArray, List.set_cons_zero, List.set_cons_succ]
          refine Ord.AnyC.done (by kernel_rfl) ?_ _
          rw [min_eq']
          obtain ⟨tagE, hbE, htE⟩ := put9 HBD.out cl ((min lc lp : Nat) : Int)
          have HTE := hide (HTD.out.trans (htE.trans (TB.keep (drew_tch _))))
          have HB4E := hide ((HB4D.out.tb htE).tb (TB.keep (drew_tch _)))
          have HB5E := hide ((HB5D.out.tb htE).tb (TB.keep (drew_tch _)))
          have HBD2 := hide (hbE.keep (drew_tch _))
          dsimp only at HBD2 HTE HB4E HB5E
          clear hbE htE HBD HTD HB4D HB5D c3 c9c z9c c9 c6 ccl
          generalize (wD.setCell ⟨gl, cl, none⟩ (.int .i32 ((min lc lp : Nat) : Int))).drew = wE at *
          obtain ⟨ll', hll'⟩ : ∃ l, l = s.ll.set cl ((min lc lp : Nat) : Int) := ⟨_, rfl⟩
          have HLL := hide (show ll'.length = n ∧ ∀ x, x < n → ll'[x]? = some (((Tj.leave t (pre.map Prod.fst) p).low x : Nat) : Int) from by
            subst hll' hlo hloc
            refine ⟨by rw [List.length_set]; exact HB3.out.nl, ?_⟩
            have e : pre.map Prod.fst = pre2.map Prod.fst ++ [cl] := by rw [hp2']; simp
            rw [e]
            exact low_snoc HB3.out.nl hcn HB3.out.low)
          have HBE := hide (show Bag wE tagE (T ⟨b7, n, b1, b2, b3, b4, b5, b6, b7, gi, gl, go, gm, gy, .slice (some ⟨gs, 0, none⟩) (n + 1) (n + 1)⟩ { s with cal := castP pre, v6 := .slice (some ⟨g6, 0, none⟩) pre.length q6, x6 := .slice (some ⟨g6, 0, none⟩) pre.length q6, ll := ll' }) from by
            subst hll'
            rw [hL]
            exact HBD2.out)
          clear hll' HBD2 hlo hloc hlcl hlpl hp2 hp2' hcm2
          go_upto_region 30 with fail
          have hnin := HB3.out.notin
          have hlself : (Tj.leave t (pre.map Prod.fst) p).low p = t.low p := leave_self hnin
          have hL1 := (HB3.out.inv.l1 p HPP.out).1
          have hL2 := HB3.out.inv.le p
          have c2 : wE.cell? ⟨b2, 0, none⟩ = some (.slice (some ⟨gi, 0, none⟩) n n) := Blk.cell (HBE.out.say 2) 0
          have c3 : wE.cell? ⟨b3, 0, none⟩ = some (.slice (some ⟨gl, 0, none⟩) n n) := Blk.cell (HBE.out.say 3) 0
          have c8 : wE.cell? ⟨gi, p, none⟩ = some (.int .i32 ((t.idx p : Nat) : Int)) := Own.at (HBE.out.say 8) (HB3.out.idx p hpn)
          have c9 : wE.cell? ⟨gl, p, none⟩ = some (.int .i32 ((t.low p : Nat) : Int)) := by
            rw [← hlself]
            exact Own.at (HBE.out.say 9) (HLL.out.2 p hpn)
          clear hnin hlself
          by_cases hlw : t.low p = t.idx p
          · have e10 : (((t.low p : Nat) : Int) != ((t.idx p : Nat) : Int)) = false := by rw [hlw]; simp
            obtain ⟨sa, sb, hsplit⟩ := List.append_of_mem (HB3.out.inv.sub p HPP.out)
            have HSP := hide hsplit
            clear hsplit
            obtain ⟨a4, n4, c4, e4'⟩ := Own.slice (HBE.out.say 10)
            have o10 : Own .i32 21 wE b7 (.slice a4 n4 c4) (castN t.stk) := by
              have := HBE.out.say 10
              rw [← e4', ← HB3.out.stk]
              exact this
            have hn4 : n4 = sa.length + (sb.length + 1) := by
              have h1 := o10.len
              rw [castN_len, HSP.out] at h1
              simp at h1
              omega
            obtain ⟨g4, e44⟩ : ∃ g4, a4 = some ⟨g4, 0, none⟩ := by
              rcases o10.form with ⟨e, _⟩ | ⟨g, cap, e, _⟩
              · cases e; omega
              · injection e with e1; exact ⟨g, e1⟩
            subst e44
            have hn44 : n4 ≤ c4 := by
              rcases o10.form with ⟨e, _⟩ | ⟨g, cap, e, _, _, h1, _⟩
              · cases e
              · have h2 := o10.len
                injection e with _ e1 e2
                omega
            have hn45 : n4 ≤ 1000 := by have h1 := o10.len; rw [castN_len] at h1; omega
            have hv4 : s.v4 = .slice (some ⟨g4, 0, none⟩) n4 c4 := e4'
            have c4b : wE.cell? ⟨b4, 0, none⟩ = some (.slice (some ⟨g4, 0, none⟩) n4 c4) := by
              rw [← hv4, ← HB3.out.x4]
              exact Blk.cell (HBE.out.say 4) 0
            have HV4 := hide hv4
            have HO10 := hide o10
            clear e4' o10 hv4
            generalize hla : sa.length = la at *
            generalize hlb : sb.length = lb at *
            subst hn4
            have HLW := hide hlw
            clear hlw
            generalize hlpp : t.low p = lp at *
            generalize hipp : t.idx p = ip at *
            go_upto_region 30 with fail
            go_quiet (fail)
            have HBG := hide (HBE.out.keep (drewN_tch wE nq))
            have HTG := hide (HTE.out.trans (TB.keep (drewN_tch wE nq)))
            have HOG := hide (HO10.out.keep (drewN_tch wE nq))
            have HB4G := hide (RO.keep HB4E.out (drewN_tch wE nq))
            have HB5G := hide (RO.keep HB5E.out (drewN_tch wE nq))
            have c4c : (wE.drewN nq).cell? ⟨b4, 0, none⟩ = some (.slice (some ⟨g4, 0, none⟩) (la + (lb + 1)) c4) := c4b
            clear HBE HTE HO10 c4b c2 c3 c8 c9 e10 HB4E HB5E
            generalize wE.drewN nq = wG at *
            go_upto_region 31 with fail
            generalize hcm : t.comps = cm at *
            go_wp2_with fail
            have hatS : ∀ j, j < lb + 1 → ∃ x, (p :: sb)[j]? = some x ∧ (castN t.stk)[la + j]? = some (x : Int) ∧ x < n ∧ (x = p ↔ j = 0) := by
              intro j hj
              obtain ⟨x, hx⟩ : ∃ x, (p :: sb)[j]? = some x := ⟨(p :: sb)[j]'(by simp; omega), List.getElem?_eq_getElem _⟩
              have hmem : x ∈ p :: sb := List.mem_of_getElem? hx
              have hxs : x ∈ t.stk := by rw [HSP.out]; exact List.mem_append_right _ hmem
              refine ⟨x, hx, castN_at (by rw [HSP.out, ← hla, split_at]; exact hx), HB3.out.out x (HB3.out.inv.pos x hxs), ?_⟩
              constructor
              · intro e
                match j, hx with
                | 0, _ => rfl
                | j + 1, hx =>
                  have h1 := HB3.out.inv.srt
                  rw [HSP.out] at h1
                  have h2 := (List.pairwise_cons.1 (List.pairwise_append.1 h1).2.1).1 x (List.mem_of_getElem? (by simpa using hx))
                  rw [e] at h2
                  omega
              · intro e
                subst e
                have := hx
                simp at this
                exact this.symm
            have HAS := hide hatS
            clear hatS
            go_loopw [22] (fun v wq => ∃ i : Nat, la ≤ i ∧ i < la + (lb + 1) ∧ v = .int .i64 (i : Int) ∧ wq = wG) (fun v _ => (intOf v).toNat)
            case atStart => exact ⟨la + lb, by omega, by omega, by first | rfl | go_num, rfl⟩
            case round =>
              obtain ⟨i, hi1, hi2, rfl, hwr⟩ := hrel
              subst hwr
              obtain ⟨x, hx1, hx2, hx3, hx4⟩ := HAS.out (i - la) (by omega)
              rw [show la + (i - la) = i by omega] at hx2
              have cst := HOG.out.at hx2
              have e12 : (i : Int) < (la : Int) + ((lb : Int) + 1) := by omega
              by_cases hj0 : i = la
              · have e11 : ((x : Int) != (p : Int)) = false := by rw [hx4.2 (by omega)]; simp
                clear hx4 hx1 hx2
                obtain rfl : la = i := hj0.symm
                go_upto_region 34 with fail
                clear cst
                go_wp2_with fail
                generalize wr = wH at *
                have c0 := Cl.start (seg := p :: sb) (two := sb ≠ []) HB3.out
                have HCL0 := hide (show Clo wH tagE ⟨b7, n, b1, b2, b3, b4, b5, b6, b7, gi, gl, go, gm, gy, .slice (some ⟨gs, 0, none⟩) (n + 1) (n + 1)⟩ { s with cal := castP pre, v6 := .slice (some ⟨g6, 0, none⟩) pre.length q6, x6 := .slice (some ⟨g6, 0, none⟩) pre.length q6, ll := ll' } n t (p :: sb) (sb ≠ []) 0 wH from ⟨tagE, s.lm, s.lo, s.ly, HBG.out, TB.refl _ _, ⟨c0.com, c0.cyc, c0.ons, c0.nm, c0.ny, c0.no⟩⟩)
                clear c0 e11 e12 hx3
                go_loopw [171] (fun v wq => ∃ j : Nat, j ≤ lb + 1 ∧ v = .int .i64 (j : Int) ∧ Clo wH tagE ⟨b7, n, b1, b2, b3, b4, b5, b6, b7, gi, gl, go, gm, gy, .slice (some ⟨gs, 0, none⟩) (n + 1) (n + 1)⟩ { s with cal := castP pre, v6 := .slice (some ⟨g6, 0, none⟩) pre.length q6, x6 := .slice (some ⟨g6, 0, none⟩) pre.length q6, ll := ll' } n t (p :: sb) (sb ≠ []) j wq) (fun v _ => lb + 1 - (intOf v).toNat)
                case atStart => exact ⟨0, Nat.zero_le _, rfl, HCL0.out⟩
                case round =>
                  clear HCL0
                  obtain ⟨j, hj, rfl, tagq, lm, lo, ly, hbq2, htq, hcl⟩ := hrel
                  by_cases hjl : j < lb + 1
                  · obtain ⟨q, hq1, hq2, hq3, hq4⟩ := HAS.out j hjl
                    have cst : wr.cell? ⟨g4, la + j, none⟩ = some (.int .i32 (q : Int)) := by
                      have o : Own .i32 21 wr b7 (.slice (some ⟨g4, 0, none⟩) (la + (lb + 1)) c4) (castN t.stk) := by
                        rw [← HV4.out, ← HB3.out.stk]; exact hbq2.say 10
                      exact o.at hq2
                    have hny : ly.length = n := hcl.ny
                    have hnm : lm.length = n := hcl.nm
                    have hno : lo.length = n := hcl.no
                    obtain ⟨y, hy⟩ : ∃ y, ly[q]? = some y := ⟨ly[q]'(by omega), List.getElem?_eq_getElem _⟩
                    obtain ⟨yo, hyo⟩ : ∃ y, lo[q]? = some y := ⟨lo[q]'(by omega), List.getElem?_eq_getElem _⟩
                    have c5 : wr.cell? ⟨b5, 0, none⟩ = some (.slice (some ⟨go, 0, none⟩) n n) := Blk.cell (hbq2.say 5) 0
                    obtain ⟨ym, hym, cgm⟩ := Own.cell (hbq2.say 13) (i := q) (by dsimp only; omega)
                    have zgm : wr.frozen? ⟨gm, q, none⟩ = false := Own.frozen (hbq2.say 13) q
                    have cgo : wr.cell? ⟨go, q, none⟩ = some (.bool yo) := OwnB.cell (hbq2.say 11) hyo
                    have zgo : wr.frozen? ⟨go, q, none⟩ = false := OwnB.frozen (hbq2.say 11) q
                    obtain ⟨tag13, hb13, ht13⟩ := put13 hbq2 q (cm : Int)
                    have d5 : (wr.setCell ⟨gm, q, none⟩ (.int .i32 (cm : Int))).cell? ⟨b5, 0, none⟩ = some (.slice (some ⟨go, 0, none⟩) n n) := Blk.cell (hb13.say 5) 0
                    have dgo : (wr.setCell ⟨gm, q, none⟩ (.int .i32 (cm : Int))).cell? ⟨go, q, none⟩ = some (.bool yo) := OwnB.cell (hb13.say 11) hyo
                    have dzo : (wr.setCell ⟨gm, q, none⟩ (.int .i32 (cm : Int))).frozen? ⟨go, q, none⟩ = false := OwnB.frozen (hb13.say 11) q
                    obtain ⟨tag11, hb11, ht11⟩ := put11 hb13 q false
                    dsimp only at hb11 ht11 cgm
                    have P1 := hide (And.intro hb11 (ht13.trans ht11))
                    have HCL := hide hcl
                    have HTQ := hide htq
                    have HQ1 := hide hq1
                    have HY := hide hy
                    clear hb13 ht13 hb11 ht11 hbq2 htq hcl hym hyo hq1 hq2 hq4 hny hnm hno hy
                    have e13 : (q : Int) < (n : Int) := by omega
                    go_upto_region 37 with fail
                    go_cut [24, 171] from 171 to 196 (fun v vj wx => v = .int .i32 (q : Int) ∧ vj = .int .i64 (j : Int) ∧ ∃ tag', Bag wx tag' (T ⟨b7, n, b1, b2, b3, b4, b5, b6, b7, gi, gl, go, gm, gy, .slice (some ⟨gs, 0, none⟩) (n + 1) (n + 1)⟩ { ({ s with cal := castP pre, v6 := .slice (some ⟨g6, 0, none⟩) pre.length q6, x6 := .slice (some ⟨g6, 0, none⟩) pre.length q6, ll := ll' } : CV) with lm := lm.set q (cm : Int), lo := lo.set q false, ly := ly }) ∧ TB tagq wr tag' wx)
                    case first =>
                      go_region
                      all_goals
                        go_wp2_with fail
                        go_meet
                        case rel =>
                          obtain ⟨q1, q2⟩ := P1.out
                          exact ⟨rfl, rfl, _, q1.keep ⟨rfl, rfl, rfl, Nat.le_refl _, fun _ _ _ => rfl⟩, q2.trans (TB.keep ⟨rfl, rfl, rfl, Nat.le_refl _, fun _ _ _ => rfl⟩)⟩
                    case rest =>
                      obtain ⟨rfl, rfl, tag3, hb3, ht3⟩ := hcut
                      clear P1 c5 cgm zgm cgo zgo d5 dgo dzo cst
                      have c14 : wc.cell? ⟨gy, q, none⟩ = some (.bool y) := OwnB.cell (hb3.say 14) HY.out
                      have z14 : wc.frozen? ⟨gy, q, none⟩ = false := OwnB.frozen (hb3.say 14) q
                      have c4d : wc.cell? ⟨b4, 0, none⟩ = some (.slice (some ⟨g4, 0, none⟩) (la + (lb + 1)) c4) := by
                        rw [← HV4.out, ← HB3.out.x4]; exact Blk.cell (hb3.say 4) 0
                      have HFI := hide (fun (yc : Bool) (hyc : yc = true ↔ (y = true ∨ sb ≠ [])) => (show Clo wH tagE ⟨b7, n, b1, b2, b3, b4, b5, b6, b7, gi, gl, go, gm, gy, .slice (some ⟨gs, 0, none⟩) (n + 1) (n + 1)⟩ { s with cal := castP pre, v6 := .slice (some ⟨g6, 0, none⟩) pre.length q6, x6 := .slice (some ⟨g6, 0, none⟩) pre.length q6, ll := ll' } n t (p :: sb) (sb ≠ []) (j + 1) (wc.setCell ⟨gy, q, none⟩ (.bool yc)) from by
                        obtain ⟨tag4, hb4, ht4⟩ := put14 hb3 q yc
                        refine ⟨tag4, _, _, _, hb4, (HTQ.out.trans ht3).trans ht4, ?_⟩
                        have := HCL.out.step HQ1.out hq3 HY.out hyc
                        rw [hcm] at this
                        exact this))
                      clear hb3 ht3
                      cases y with
                      | true =>
                        go_wp2_with fail
                        go_roundw
                        case rel => exact ⟨j + 1, by omega, by go_num, HFI.out true (by simp)⟩
                        case measure => simp [intOf]; omega
                      | false =>
                        by_cases hl0 : lb = 0
                        · have hsb : sb = [] := List.length_eq_zero_iff.1 (by omega)
                          have e14 : decide (1 < (la : Int) + ((lb : Int) + 1) - (la : Int)) = false := by simp; omega
                          have HL0 := hide hl0
                          clear hl0
                          go_wp2_with fail
                          go_roundw
                          case rel => exact ⟨j + 1, by omega, by go_num, HFI.out false (by simp [hsb])⟩
                          case measure => simp [intOf]; omega
                        · have hsb : sb ≠ [] := fun e => hl0 (by rw [← hlb, e]; rfl)
                          have e14 : decide (1 < (la : Int) + ((lb : Int) + 1) - (la : Int)) = true := by simp; omega
                          go_wp2_with fail
                          go_roundw
                          case rel => exact ⟨j + 1, by omega, by go_num, HFI.out true (by simp [hsb])⟩
                          case measure => simp [intOf]; omega
                  · obtain rfl : j = lb + 1 := by omega
                    have c4d : wr.cell? ⟨b4, 0, none⟩ = some (.slice (some ⟨g4, 0, none⟩) (la + (lb + 1)) c4) := by
                      rw [← HV4.out, ← HB3.out.x4]; exact Blk.cell (hbq2.say 4) 0
                    have z4d : wr.frozen? ⟨b4, 0, none⟩ = false := Blk.frozen (hbq2.say 4) 0
                    have o : Own .i32 21 wr b7 (.slice (some ⟨g4, 0, none⟩) (la + (lb + 1)) c4) (castN t.stk) := by
                      rw [← HV4.out, ← HB3.out.stk]; exact hbq2.say 10
                    have oc := o.cut la (by rw [castN_len, HSP.out]; simp; omega)
                    rw [HSP.out, ← hla, split_take, hla] at oc
                    obtain ⟨tag5, hb5, ht5⟩ := put10 (v := .slice (some ⟨g4, 0, none⟩) la c4) hbq2 (Tch.refl _ _) oc (fun g hg => .inl (by
                      show s.v4.ownBlock = some g
                      rw [HV4.out]; exact hg))
                    obtain ⟨tag6, hb6, ht6⟩ := put4 hb5 (.slice (some ⟨g4, 0, none⟩) la c4)
                    have ht7 := (htq.trans ht5).trans ht6
                    have HR := hide (HN.out (Tj.close t (pre.map Prod.fst) sa p sb) pre (wr.setCell ⟨b4, 0, none⟩ (.slice (some ⟨g4, 0, none⟩) la c4))
                      ⟨tag6, _, hb6, HTG.out.trans ht7, HB3.out.close (s' := { ({ s with cal := castP pre, v6 := .slice (some ⟨g6, 0, none⟩) pre.length q6, x6 := .slice (some ⟨g6, 0, none⟩) pre.length q6, ll := ll' } : CV) with lm := lm, lo := lo, ly := ly }) HC.out rfl (by rw [hbq]; exact hkb) (by rw [hlpp, hipp]; exact HLW.out) HSP.out ll' (.slice (some ⟨g6, 0, none⟩) pre.length q6) (.slice (some ⟨g4, 0, none⟩) la c4) HLL.out.1 HLL.out.2 (by
                        have e : (p :: sb).length = lb + 1 := by simp [hlb]
                        rw [e]
                        exact hcl), HB4G.out.tb ht7, HB5G.out.tb ht7⟩ HX.out ms_close)
                    clear hb5 ht5 hb6 ht6 ht7 oc o hbq2 htq hcl
                    try dsimp only at HR
                    go_wp2_with fail
                    go_roundw
                    case rel =>
                      have h := HR.out.1
                      have e : ((Tj.close t (pre.map Prod.fst) sa p sb).comps : Int) = (cm : Int) + 1 := by rw [← hcm]; rfl
                      rw [e] at h
                      exact h
                    case measure =>
                      have h := HR.out.2
                      have e : ((Tj.close t (pre.map Prod.fst) sa p sb).comps : Int) = (cm : Int) + 1 := by rw [← hcm]; rfl
                      rw [e] at h
                      rw [hcm]
                      exact h
              · have e11 : ((x : Int) != (p : Int)) = true := by
                  rw [bne_iff_ne]
                  intro e
                  exact hj0 (by have := hx4.1 (by omega); omega)
                clear hx4 hx1 hx2
                go_wp2_with fail
                go_roundw
                case rel => exact ⟨i - 1, by omega, by omega, by congr 1; omega, by first | rfl | trivial⟩
                case measure => simp [intOf]; omega
          · have e10 : (((t.low p : Nat) : Int) != ((t.idx p : Nat) : Int)) = true := by rw [bne_iff_ne]; omega
            have HR := hide (fun wz (tz : Tch Non wE wz) => HN.out (Tj.leave t (pre.map Prod.fst) p) pre wz
              ⟨tagE, _, HBE.out.keep tz, HTE.out.trans (TB.keep tz), HB3.out.leave HC.out rfl (by rw [hbq]; exact hkb) (by omega) ll' (.slice (some ⟨g6, 0, none⟩) pre.length q6) HLL.out.1 HLL.out.2, HB4E.out.tb (TB.keep tz), HB5E.out.tb (TB.keep tz)⟩ HX.out ms_leave)
            clear HN HBE HTE HB4E HB5E
            generalize t.low p = lp at *
            generalize t.idx p = ip at *
            generalize hcm : t.comps = cm at *
            go_upto_region 30 with fail
            go_quiet (fail)
            go_wp2_with fail
            go_roundw
            case rel => rw [← hcm]; exact (HR.out _ (drewN_tch wE nq)).1
            case measure =>
              have h := (HR.out _ (drewN_tch wE nq)).2
              have e : (Tj.leave t (pre.map Prod.fst) p).comps = t.comps := rfl
              rw [e, hcm] at h
              rw [hcm]
              exact h
end Go.Proofs.Ybulkaxc.Cm
