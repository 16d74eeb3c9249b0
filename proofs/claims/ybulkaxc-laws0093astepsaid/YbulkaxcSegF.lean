/-
  LawS0093AStep, the walk's segment: the targets.
-/
import Derived.Test.YbulkaxcSegG
import Derived.Deep.RegionLaw
namespace Go.Proofs.Ybulkaxc.Seg
open Go Go.RowKit Go.Proofs.Ybulkaxc.Mem Go.Proofs.Ybulkaxc.Step Go.Proofs.Ybulkaxc.Clone
set_option linter.unusedVariables false

/-- A cut of an owned row can be read. -/
theorem src_cut {w : World} {B gh m : Nat} {hs : List Int} (h : Own w B (.slice (some ⟨gh, 0, none⟩) m m) hs) (i j : Nat) (hij : i ≤ j) (hjm : j ≤ m) :
    Src w (.slice (some ⟨gh, i, none⟩) (j - i) (m - i)) ((hs.drop i).take (j - i)) := by
  have hl : ((hs.drop i).take (j - i)).length = j - i := by simp [h.len]; omega
  refine .inr ⟨gh, i, m - i, by rw [hl], fun k x hx => ?_⟩
  rw [List.getElem?_take] at hx
  split at hx
  · rw [List.getElem?_drop] at hx
    obtain ⟨y, hy, hc⟩ := h.cell (i := i + k) ((List.getElem?_eq_some_iff.1 hx).1)
    rw [hx] at hy; cases hy; exact hc
  · cases hx

set_option maxRecDepth 100000 in
set_option maxHeartbeats 1000000 in
theorem segF (d0 d1 d2 d3 d4 d5 d8 d9 d10 d11 d12 d13 d14 d15 d16 d17 d19 d22 d23 d24 d25 d27 d28 d30 d31 d32 d33 d34 d36 d41 d42 d43 d44 d45 d46 d47 d48 d49 d50 d51 d52 d53 d54 d55 d56 d57 d58 d59 d60 d61 d62 d63 d64 d65 d66 d67 d68 d69 d70 d71 d72 d73 d74 d75 d76 d77 d78 d79 d80 d81 d82 d83 d84 d85 d86 d87 d88 d89 d90 d91 d92 d93 d94 d95 d96 d97 d98 d99 d100 d101 d102 d103 d104 d105 d106 d107 d108 d109 d110 d111 d112 d113 d114 d115 d116 d117 d118 d119 d120 d121 d122 d123 d124 d125 d126 d127 d128 d129 d130 d131 d132 d133 d134 d135 d136 d137 d138 d139 d140 d141 d142 d143 d144 d145 d146 d147 d148 d149 d150 d151 d152 d153 d154 d155 d156 d157 d158 d159 d160 d161 d162 d163 d164 d165 d166 d167 d168 d169 d170 d171 d172 d173 d174 d175 d176 d177 d178 d179 d180 d181 d182 d183 d184 d185 d186 d187 d188 d189 d190 d191 d192 d193 d194 d195 d196 d197 d198 d199 d200 d201 d202 d203 d204 d205 d206 d207 d208 d209 d210 d211 d212 d213 d214 d215 d216 d217 d218 d219 d220 d221 d222 d223 d224 d225 d226 d227 d228 d229 d230 d231 d232 d233 d234 d235 d236 d237 d238 d239 d240 d241 d242 d243 d244 d245 d246 d247 d248 d249 d250 d251 d252 d253 d254 d255 d256 d257 d258 d259 d260 d261 d262 d263 d264 d265 d266 d267 d268 d269 d270 d271 d272 d273 d274 d275 d276 d277 d278 d279 d280 d281 d282 d283 d284 d285 d286 d287 d288 d289 d290 d291 d292 d293 d294 d295 d296 d297 d298 d299 d300 d301 d302 d303 d304 d305 d306 d307 d308 d309 d310 d311 d312 d313 d314 d315 d316 d317 d318 d319 d320 d321 d322 d323 d324 d325 d326 d327 d328 d329 d330 d331 d332 d333 d334 d335 d336 d337 d338 d339 d340 d341 d342 d343 d344 d345 d346 d347 d348 d349 d350 : Value) (B gs gd gl gi ci g35 c35 gst cst gh m T L p i j : Nat) (v6 v7 vt vp vl : Value) (ind old hs tka pta pts lg : List Int) (txn : Int) (w0 w : World)
    (h6 : Src w v6 tka) (h7 : Src w v7 pta) (h : SW w B gs gd gl (.slice (some ⟨gi, 0, none⟩) T ci) vt vp vl ind (tka ++ [(p : Int)]) pts lg)
    (h35 : Own w B (.slice (some ⟨g35, 0, none⟩) T c35) old) (hrow : Own w B (.slice (some ⟨gh, 0, none⟩) m m) hs) (hT0 : 1 ≤ T) (hT : T ≤ 1000) (hL0 : 1 ≤ L) (hL : L ≤ 100)
    (hci : w.cell? ⟨gst, p, none⟩ = some (.int .i32 (i : Int))) (hcj : w.cell? ⟨gst, p + 1, none⟩ = some (.int .i32 (j : Int))) (hij : i ≤ j) (hjm : j ≤ m) (hm : m ≤ 2000) (hpT : p < T) (htT : txn ≤ T)
    (hnx : (p : Int) < txn → (p : Int) % (L : Int) < (L : Int) - 1 → (p : Int) + 1 < txn)
    (hold : ∀ y ∈ old, -2147483648 ≤ y ∧ y ≤ 2147483647) (hhs : ∀ x ∈ hs, 0 ≤ x ∧ x < T)
    (hfold : (tgts ((hs.drop i).take (j - i)) p txn L).foldl (hit txn) (old, pta, []) = (ind, pts, lg))
    (l1 : tka.length ≤ 10000) (l2 : pta.length ≤ 10000) (hb : Below w0.heap.size w0 w) (hBw : B ≤ w.heap.size)
    (K : Act → World → Prop) (hK : ∀ a w, Code.wp Yba.prog (snd ((Yba.f3.body.bind (tailAt 49)).getD .skip)) (Post w0) a w → K a w) :
    Code.wp Yba.prog (fst ((Yba.f3.body.bind (tailAt 49)).getD .skip)) (Exit.then K (Post w0)) ⟨#[d0, d1, d2, d3, d4, d5, v6, v7, d8, d9, d10, d11, d12, d13, d14, d15, d16, d17, .int .i64 (L : Int), d19, .int .i32 txn, .int .i32 (T : Int), d22, d23, d24, d25, .slice (some ⟨gst, 0, none⟩) (T + 1) cst, d27, d28, .slice (some ⟨gh, 0, none⟩) m m, d30, d31, d32, d33, d34, .slice (some ⟨g35, 0, none⟩) T c35, d36, .slice (some ⟨gi, 0, none⟩) T ci, .pointer (some ⟨gl, 0, none⟩), .pointer (some ⟨gs, 0, none⟩), .int .i32 (p : Int), d41, d42, d43, d44, d45, d46, d47, d48, d49, d50, d51, d52, d53, d54, d55, d56, d57, d58, d59, d60, d61, d62, d63, d64, d65, d66, d67, d68, d69, d70, d71, d72, d73, d74, d75, d76, d77, d78, d79, d80, d81, d82, d83, d84, d85, d86, d87, d88, d89, d90, d91, d92, d93, d94, d95, d96, d97, d98, d99, d100, d101, d102, d103, d104, d105, d106, d107, d108, d109, d110, d111, d112, d113, d114, d115, d116, d117, d118, d119, d120, d121, d122, d123, d124, d125, d126, d127, d128, d129, d130, d131, d132, d133, d134, d135, d136, d137, d138, d139, d140, d141, d142, d143, d144, d145, d146, d147, d148, d149, d150, d151, d152, d153, d154, d155, d156, d157, d158, d159, d160, d161, d162, d163, d164, d165, d166, d167, d168, d169, d170, d171, d172, d173, d174, d175, d176, d177, d178, d179, d180, d181, d182, d183, d184, d185, d186, d187, d188, d189, d190, d191, d192, d193, d194, d195, d196, d197, d198, d199, d200, d201, d202, d203, d204, d205, d206, d207, d208, d209, d210, d211, d212, d213, d214, d215, d216, d217, d218, d219, d220, d221, d222, d223, d224, d225, d226, d227, d228, d229, d230, d231, d232, d233, d234, d235, d236, d237, d238, d239, d240, d241, d242, d243, d244, d245, d246, d247, d248, d249, d250, d251, d252, d253, d254, d255, d256, d257, d258, d259, d260, d261, d262, d263, d264, d265, d266, d267, d268, d269, d270, d271, d272, d273, d274, d275, d276, d277, d278, d279, d280, d281, d282, d283, d284, d285, d286, d287, d288, d289, d290, d291, d292, d293, d294, d295, d296, d297, d298, d299, d300, d301, d302, d303, d304, d305, d306, d307, d308, d309, d310, d311, d312, d313, d314, d315, d316, d317, d318, d319, d320, d321, d322, d323, d324, d325, d326, d327, d328, d329, d330, d331, d332, d333, d334, d335, d336, d337, d338, d339, d340, d341, d342, d343, d344, d345, d346, d347, d348, d349, d350], []⟩ w := by
  conv => arg 2; whnf
  conv at hK => enter [a, w, 1, 2]; whnf
  obtain ⟨i0, hi, hz0, hz1, hz2⟩ := info_parts info21
  have H6 := hide h6
  have H7 := hide h7
  have H := hide h
  have H35 := hide h35
  have HR := hide hrow
  have HB := hide hb
  have HO := hide hold
  have HH := hide hhs
  have HFD := hide hfold
  have HNX := hide hnx
  have hsl : ((hs.drop i).take (j - i)).length = j - i := by simp [hrow.len]; omega
  have hsm : ∀ x ∈ (hs.drop i).take (j - i), x ∈ hs := fun x hx => List.mem_of_mem_drop (List.mem_of_mem_take hx)
  have HSL := hide hsl
  have HSM := hide hsm
  clear h6 h7 h h35 hrow hb hold hhs hfold hnx hsl hsm
  have q1 : (p : Int) < (T : Int) + 1 := by omega
  have q2 : (p : Int) + 1 < (T : Int) + 1 := by omega
  have hw1 : IntKind.i32.wrap ((p : Int) + 1) = (p : Int) + 1 := IntWalk.i32_in _ (by omega)
  have hw2 : ((p : Int) + 1).toNat = p + 1 := by omega
  have hw3 : (0 : Int) ≤ (p : Int) + 1 := by omega
  have q3 : (i : Int) ≤ (j : Int) := by omega
  have q4 : (j : Int) ≤ (m : Int) := by omega
  have q5 : (0 : Int) ≤ (i : Int) := by omega
  have q6 : (i : Int) ≤ (m : Int) := by omega
  generalize hSG : (hs.drop i).take (j - i) = sg at *
  conv => arg 4; dsimp only
  go_cut [41] from 243 to 254 (fun v wc => Own wc w.heap.size v sg ∧ Tch [] w wc)
  case first =>
    by_cases hc : i = m
    · obtain rfl : j = i := by omega
      have hsg : sg = [] := by rw [← hSG]; simp
      have hsrc : Src w.drew (.slice (some ⟨gh, 0, none⟩) 0 0) sg := .inl ⟨hsg, _, _, rfl, fun e => by cases e⟩
      have HSRC := hide hsrc
      subst hc
      clear hsrc hSG hsg
      go_region_law (refine step_app32 (v := .slice none 0 0) _ rfl (.const (.slice none 0 0)) (.tmp 253) 23 rfl i0 Yba.underlying23 hi hz0 hz1 hz2 rfl (Own.nil _ w.heap.size) rfl (by exact HSRC.out) (by have := HSL.out; simp only [List.length_nil]; omega) (by exact Nat.le_refl _) ?_; intro v1 w1 k1 k2 k3)
      all_goals
        go_wp2_with fail
        go_meet
        case rel => exact ⟨k1, ((Tch.refl _ _).drew).trans k2 (by simp [Value.ownBlock])⟩
    · have hsrc : Src w.drew (.slice (some ⟨gh, i, none⟩) (j - i) (m - i)) sg := by rw [← hSG]; exact src_cut HR.out i j hij hjm
      have HSRC := hide hsrc
      have hmi : ¬ m = i := fun e => hc e.symm
      clear hsrc hSG
      go_region_law (refine step_app32 (v := .slice none 0 0) _ rfl (.const (.slice none 0 0)) (.tmp 253) 23 rfl i0 Yba.underlying23 hi hz0 hz1 hz2 rfl (Own.nil _ w.heap.size) rfl (by exact HSRC.out) (by have := HSL.out; simp only [List.length_nil]; omega) (by exact Nat.le_refl _) ?_; intro v1 w1 k1 k2 k3)
      all_goals
        go_wp2_with fail
        go_meet
        case rel => exact ⟨k1, ((Tch.refl _ _).drew).trans k2 (by simp [Value.ownBlock])⟩
  case rest =>
    obtain ⟨k1, k2⟩ := hcut
    obtain ⟨a1, n1, c1, hu⟩ := k1.slice
    subst hu
    clear hw1 hw2 hw3 q1 q2 q3 q4 q5 q6 hSG
    have K1 := hide k1
    have K2 := hide k2
    have hsz := k2.size
    clear k1 k2
    by_cases ht : (p : Int) < txn
    · by_cases hla : (p : Int) % (L : Int) < (L : Int) - 1
      · have hlb : ((p : Int) % (L : Int) != (L : Int) - 1) = true := by simp; omega
        go_upto_region 52 with (at_builtin; go_must (refine wpList_app32 (v := .slice a1 n1 c1) _ rfl (.tmp 267) (.tmp 270) 23 rfl i0 Yba.underlying23 hi hz0 hz1 hz2 rfl (by exact K1.out.alloc _) rfl (by exact Src.one wc ((p : Int) + 1) 1) (by have := HSL.out; simp only [List.length_cons, List.length_nil]; omega) (by simp only [World.size_alloc]; omega) ?_; intro v2 w2 hown2 hgrow hfr; obtain ⟨a2, n2, c2, hu2⟩ := hown2.slice; subst hu2))
        have t2 : Tch [] w w2 := (K2.out.alloc _).trans hgrow (fun g hg => .inr (K1.out.lt (by simpa using hg)).1)
        have ht2 := tgts_yes sg p txn L ht hla
        have hn2 : n2 = sg.length + 1 := by rw [← hown2.len]; simp
        refine segG _ _ _ _ _ _ _ _ _ _ _ _ _ _ _ _ _ _ _ _ _ _ _ _ _ _ _ _ _ _ _ _ _ _ _ _ _ _ _ _ _ _ _ _ _ _ _ _ _ _ _ _ _ _ _ _ _ _ _ _ _ _ _ _ _ _ _ _ _ _ _ _ _ _ _ _ _ _ _ _ _ _ _ _ _ _ _ _ _ _ _ _ _ _ _ _ _ _ _ _ _ _ _ _ _ _ _ _ _ _ _ _ _ _ _ _ _ _ _ _ _ _ _ _ _ _ _ _ _ _ _ _ _ _ _ _ _ _ _ _ _ _ _ _ _ _ _ _ _ _ _ _ _ _ _ _ _ _ _ _ _ _ _ _ _ _ _ _ _ _ _ _ _ _ _ _ _ _ _ _ _ _ _ _ _ _ _ _ _ _ _ _ _ _ _ _ _ _ _ _ _ _ _ _ _ _ _ _ _ _ _ _ _ _ _ _ _ _ _ _ _ _ _ _ _ _ _ _ _ _ _ _ _ _ _ _ _ _ _ _ _ _ _ _ _ _ _ _ _ _ _ _ _ _ _ _ _ _ _ _ _ _ _ _ _ _ _ _ _ _ _ _ _ _ _ _ _ _ _ _ _ _ _ _ _ _ _ _ _ _ _ _ _ _ _ _ _ _ _ _ _ _ _ _ _ _ _ _ _ _ _ _ _ _ _ _ _ _ _ _ _ _ _ _ _ _ _ _ _ _ _ _ _ _ _ _ _ _ _ _ _ B gs gd gl gi ci g35 c35 T n2 c2 a2 v6 v7 vt vp vl ind old (sg ++ [(p : Int) + 1]) tka pta pts lg p txn w0 w2 (Src.keep H6.out t2) (Src.keep H7.out t2) (SW.keep H.out t2) (Own.keep H35.out t2) (hown2.mono hBw) hT0 hT HO.out ?_ (by have := HSL.out; omega) (by rw [← ht2]; exact HFD.out) l1 l2 (Tch.below0 HB.out t2) (Nat.le_trans hBw t2.size) _ ?_
        · intro x hx
          rcases List.mem_append.1 hx with h | h
          · exact HH.out x (HSM.out x h)
          · rw [List.mem_singleton.1 h]; have := HNX.out ht hla; omega
        · assumption
      · have hlb : ((p : Int) % (L : Int) != (L : Int) - 1) = false := by have := Int.emod_lt_of_pos (p : Int) (show 0 < (L : Int) by omega); simp; omega
        have ht2 := tgts_no sg p txn L (by omega)
        have HT2 := hide ht2
        clear ht2
        go_upto_region 52 with fail
        refine segG _ _ _ _ _ _ _ _ _ _ _ _ _ _ _ _ _ _ _ _ _ _ _ _ _ _ _ _ _ _ _ _ _ _ _ _ _ _ _ _ _ _ _ _ _ _ _ _ _ _ _ _ _ _ _ _ _ _ _ _ _ _ _ _ _ _ _ _ _ _ _ _ _ _ _ _ _ _ _ _ _ _ _ _ _ _ _ _ _ _ _ _ _ _ _ _ _ _ _ _ _ _ _ _ _ _ _ _ _ _ _ _ _ _ _ _ _ _ _ _ _ _ _ _ _ _ _ _ _ _ _ _ _ _ _ _ _ _ _ _ _ _ _ _ _ _ _ _ _ _ _ _ _ _ _ _ _ _ _ _ _ _ _ _ _ _ _ _ _ _ _ _ _ _ _ _ _ _ _ _ _ _ _ _ _ _ _ _ _ _ _ _ _ _ _ _ _ _ _ _ _ _ _ _ _ _ _ _ _ _ _ _ _ _ _ _ _ _ _ _ _ _ _ _ _ _ _ _ _ _ _ _ _ _ _ _ _ _ _ _ _ _ _ _ _ _ _ _ _ _ _ _ _ _ _ _ _ _ _ _ _ _ _ _ _ _ _ _ _ _ _ _ _ _ _ _ _ _ _ _ _ _ _ _ _ _ _ _ _ _ _ _ _ _ _ _ _ _ _ _ _ _ _ _ _ _ _ _ _ _ _ _ _ _ _ _ _ _ _ _ _ _ _ _ _ _ _ _ _ _ _ _ _ _ _ _ _ _ _ _ _ B gs gd gl gi ci g35 c35 T n1 c1 a1 v6 v7 vt vp vl ind old sg tka pta pts lg p txn w0 wc (Src.keep H6.out K2.out) (Src.keep H7.out K2.out) (SW.keep H.out K2.out) (Own.keep H35.out K2.out) (K1.out.mono hBw) hT0 hT HO.out (fun x hx => HH.out x (HSM.out x hx)) (by have := HSL.out; have := K1.out.len; omega) (by rw [← HT2.out]; exact HFD.out) l1 l2 (Tch.below0 HB.out K2.out) (Nat.le_trans hBw hsz) _ ?_
        assumption
    · have ht2 := tgts_no sg p txn L (by omega)
      have HT2 := hide ht2
      clear ht2
      go_upto_region 52 with fail
      refine segG _ _ _ _ _ _ _ _ _ _ _ _ _ _ _ _ _ _ _ _ _ _ _ _ _ _ _ _ _ _ _ _ _ _ _ _ _ _ _ _ _ _ _ _ _ _ _ _ _ _ _ _ _ _ _ _ _ _ _ _ _ _ _ _ _ _ _ _ _ _ _ _ _ _ _ _ _ _ _ _ _ _ _ _ _ _ _ _ _ _ _ _ _ _ _ _ _ _ _ _ _ _ _ _ _ _ _ _ _ _ _ _ _ _ _ _ _ _ _ _ _ _ _ _ _ _ _ _ _ _ _ _ _ _ _ _ _ _ _ _ _ _ _ _ _ _ _ _ _ _ _ _ _ _ _ _ _ _ _ _ _ _ _ _ _ _ _ _ _ _ _ _ _ _ _ _ _ _ _ _ _ _ _ _ _ _ _ _ _ _ _ _ _ _ _ _ _ _ _ _ _ _ _ _ _ _ _ _ _ _ _ _ _ _ _ _ _ _ _ _ _ _ _ _ _ _ _ _ _ _ _ _ _ _ _ _ _ _ _ _ _ _ _ _ _ _ _ _ _ _ _ _ _ _ _ _ _ _ _ _ _ _ _ _ _ _ _ _ _ _ _ _ _ _ _ _ _ _ _ _ _ _ _ _ _ _ _ _ _ _ _ _ _ _ _ _ _ _ _ _ _ _ _ _ _ _ _ _ _ _ _ _ _ _ _ _ _ _ _ _ _ _ _ _ _ _ _ _ _ _ _ _ _ _ _ _ _ _ _ _ _ B gs gd gl gi ci g35 c35 T n1 c1 a1 v6 v7 vt vp vl ind old sg tka pta pts lg p txn w0 wc (Src.keep H6.out K2.out) (Src.keep H7.out K2.out) (SW.keep H.out K2.out) (Own.keep H35.out K2.out) (K1.out.mono hBw) hT0 hT HO.out (fun x hx => HH.out x (HSM.out x hx)) (by have := HSL.out; have := K1.out.len; omega) (by rw [← HT2.out]; exact HFD.out) l1 l2 (Tch.below0 HB.out K2.out) (Nat.le_trans hBw hsz) _ ?_
      assumption
end Go.Proofs.Ybulkaxc.Seg
