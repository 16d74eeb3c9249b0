/-
  LawS0093AStep, the walk's last segment: the three comparisons.
-/
import Derived.Test.YbulkaxcCut
namespace Go.Proofs.Ybulkaxc.Seg
open Go Go.RowKit Go.Proofs.Ybulkaxc.Mem Go.Proofs.Ybulkaxc.Step Go.Proofs.Ybulkaxc.Clone
set_option linter.unusedVariables false

set_option maxRecDepth 100000 in
set_option maxHeartbeats 1000000 in
theorem segI (c0 c1 c2 c3 c4 c5 c7 c8 c9 c10 c11 c12 c13 c14 c15 c16 c17 c18 c19 c20 c21 c22 c23 c24 c25 c26 c27 c28 c29 c30 c31 c32 c33 c34 c35 c36 c37 c41 c42 c45 c46 c47 c48 c49 c50 c51 c52 c53 c54 c55 c56 c57 c58 c59 c60 c61 c62 c63 c64 c65 c66 c67 c68 c69 c70 c71 c72 c73 c74 c75 c76 c77 c78 c79 c80 c81 c82 c83 c84 c85 c86 c87 c88 c89 c90 c91 c92 c93 c94 c95 c96 c97 c98 c99 c100 c101 c102 c103 c104 c105 c106 c107 c108 c109 c110 c111 c112 c113 c114 c115 c116 c117 c118 c119 c120 c121 c122 c123 c124 c125 c126 c127 c128 c129 c130 c131 c132 c133 c134 c135 c136 c137 c138 c139 c140 c141 c142 c143 c144 c145 c146 c147 c148 c149 c150 c151 c152 c153 c154 c155 c156 c157 c158 c159 c160 c161 c162 c163 c164 c165 c166 c167 c168 c169 c170 c171 c172 c173 c174 c175 c176 c177 c178 c179 c180 c181 c182 c183 c184 c185 c186 c187 c188 c189 c190 c191 c192 c193 c194 c195 c196 c197 c198 c199 c200 c201 c202 c203 c204 c205 c206 c207 c208 c209 c210 c211 c212 c213 c214 c215 c216 c217 c218 c219 c220 c221 c222 c223 c224 c225 c226 c227 c228 c229 c230 c231 c232 c233 c234 c235 c236 c237 c238 c239 c240 c241 c242 c243 c244 c245 c246 c247 c248 c249 c250 c251 c252 c253 c254 c255 c256 c257 c258 c259 c260 c261 c262 c263 c264 c265 c266 c267 c268 c269 c270 c271 c272 c273 c274 c275 c276 c277 c278 c279 c280 c281 c282 c283 c284 c285 c286 c287 c288 c289 c290 c291 c292 c293 c294 c295 c296 c297 c298 c299 c300 c301 c302 c303 c304 c305 c306 c307 c308 c309 c310 c311 c312 c313 c314 c315 c316 c317 c318 c319 c320 c321 c322 c323 c324 c325 c326 c327 c328 c329 c330 c331 c332 c333 c334 c335 c336 c337 c338 c339 c340 c341 c342 c343 c344 c345 c346 c347 c348 c349 c350 : Value) (B gs gd gl : Nat) (v6 v43 v44 vi vt vp vl : Value) (ind tka pts lg : List Int) (p : Int) (w0 w : World)
    (h6 : Src w v6 tka) (h : SW w B gs gd gl vi vt vp vl ind (tka ++ [p]) pts lg) (h44 : Own w B v44 pts) (h43 : Own w B v43 lg) (l1 : tka.length ≤ 10000) (l2 : pts.length ≤ 20000) (l3 : lg.length ≤ 20000) (hb : Below w0.heap.size w0 w)
    (K : Act → World → Prop) (hK : ∀ a w, Code.wp Yba.prog (snd ((Yba.f3.body.bind (tailAt 70)).getD .skip)) (Post w0) a w → K a w) :
    Code.wp Yba.prog (fst ((Yba.f3.body.bind (tailAt 70)).getD .skip)) (Exit.then K (Post w0)) ⟨#[c0, c1, c2, c3, c4, c5, v6, c7, c8, c9, c10, c11, c12, c13, c14, c15, c16, c17, c18, c19, c20, c21, c22, c23, c24, c25, c26, c27, c28, c29, c30, c31, c32, c33, c34, c35, c36, c37, .pointer (some ⟨gl, 0, none⟩), .pointer (some ⟨gs, 0, none⟩), .int .i32 p, c41, c42, v43, v44, c45, c46, c47, c48, c49, c50, c51, c52, c53, c54, c55, c56, c57, c58, c59, c60, c61, c62, c63, c64, c65, c66, c67, c68, c69, c70, c71, c72, c73, c74, c75, c76, c77, c78, c79, c80, c81, c82, c83, c84, c85, c86, c87, c88, c89, c90, c91, c92, c93, c94, c95, c96, c97, c98, c99, c100, c101, c102, c103, c104, c105, c106, c107, c108, c109, c110, c111, c112, c113, c114, c115, c116, c117, c118, c119, c120, c121, c122, c123, c124, c125, c126, c127, c128, c129, c130, c131, c132, c133, c134, c135, c136, c137, c138, c139, c140, c141, c142, c143, c144, c145, c146, c147, c148, c149, c150, c151, c152, c153, c154, c155, c156, c157, c158, c159, c160, c161, c162, c163, c164, c165, c166, c167, c168, c169, c170, c171, c172, c173, c174, c175, c176, c177, c178, c179, c180, c181, c182, c183, c184, c185, c186, c187, c188, c189, c190, c191, c192, c193, c194, c195, c196, c197, c198, c199, c200, c201, c202, c203, c204, c205, c206, c207, c208, c209, c210, c211, c212, c213, c214, c215, c216, c217, c218, c219, c220, c221, c222, c223, c224, c225, c226, c227, c228, c229, c230, c231, c232, c233, c234, c235, c236, c237, c238, c239, c240, c241, c242, c243, c244, c245, c246, c247, c248, c249, c250, c251, c252, c253, c254, c255, c256, c257, c258, c259, c260, c261, c262, c263, c264, c265, c266, c267, c268, c269, c270, c271, c272, c273, c274, c275, c276, c277, c278, c279, c280, c281, c282, c283, c284, c285, c286, c287, c288, c289, c290, c291, c292, c293, c294, c295, c296, c297, c298, c299, c300, c301, c302, c303, c304, c305, c306, c307, c308, c309, c310, c311, c312, c313, c314, c315, c316, c317, c318, c319, c320, c321, c322, c323, c324, c325, c326, c327, c328, c329, c330, c331, c332, c333, c334, c335, c336, c337, c338, c339, c340, c341, c342, c343, c344, c345, c346, c347, c348, c349, c350], []⟩ w := by
  conv => arg 2; whnf
  conv at hK => enter [a, w, 1, 2]; whnf
  obtain ⟨i0, hi, hz0, hz1, hz2⟩ := info_parts info21
  have H6 := hide h6
  have H := hide h
  have H44 := hide h44
  have H43 := hide h43
  have HB := hide hb
  obtain ⟨at', nt, ct, et⟩ := h.ot.slice
  obtain ⟨ap', np, cp, ep⟩ := h.op.slice
  obtain ⟨al', nl, cl, el⟩ := h.ol.slice
  subst et ep el
  clear h6 h h44 h43 hb
  go_wp2_with fail
  refine (clone_any _ v6 tka (by omega) H6.out).mono ?_
  rintro e w1 ⟨v', rfl, k1, k2⟩
  go_wp2_with (at_builtin; go_must (refine wpList_app32 (v := v') _ rfl (.tmp 330) (.tmp 332) 23 rfl i0 Yba.underlying23 hi hz0 hz1 hz2 rfl (by exact k1.alloc _) rfl (by exact Src.one w1 p 1) (by simp only [List.length_cons, List.length_nil]; omega) (by have := k2.size; simp only [World.size_alloc]; omega) ?_; intro v2 w2 hown2 hgrow hfr; have t2 : Tch [] w w2 := (k2.alloc _).trans hgrow (fun x hx => .inr (k1.lt (by simpa using hx)).1); have a1 : w2.cell? ⟨gs, 3, none⟩ = some (.slice at' nt ct) := (SW.keep H.out t2).cells.2.2.2.1; have a2 : w2.cell? ⟨gs, 4, none⟩ = some (.slice ap' np cp) := (SW.keep H.out t2).cells.2.2.2.2.1; have a3 : w2.cell? ⟨gl, 0, none⟩ = some (.slice al' nl cl) := (SW.keep H.out t2).l0.cell 0))
  refine (equal_any _ _ _ (tka ++ [p]) (by simp; omega) (by exact (SW.keep H.out t2).ot.src) (by exact hown2.src)).mono ?_
  rintro e w3 ⟨rfl, q, rfl⟩
  go_wp2_with fail
  refine (equal_any _ _ _ pts (by omega) (by exact ((SW.keep H.out t2).drewN q).op.src) (by exact ((Own.keep H44.out t2).drewN q).src)).mono ?_
  rintro e w4 ⟨rfl, q2, rfl⟩
  go_wp2_with fail
  have a4 := (((SW.keep H.out t2).drewN q).drewN q2).ol.src
  have a5 := (((Own.keep H43.out t2).drewN q).drewN q2).src
  refine (equal_any _ _ _ lg (by omega) (by exact a4) (by exact a5)).mono ?_
  rintro e w5 ⟨rfl, q3, rfl⟩
  go_wp2_with fail
  go_ret
  exact ⟨rfl, Tch.below0 HB.out (t2.drewN _)⟩
end Go.Proofs.Ybulkaxc.Seg
