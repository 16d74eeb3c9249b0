/-
  LawS0093CClosure (4): the sums.
-/
import Derived.Test.YbulkaxcLb
import Derived.Test.YbulkaxcCut2
namespace Go.Proofs.Ybulkaxc.Law
open Go Go.RowKit Go.Proofs.Ybulkaxc.M2 Go.Proofs.Ybulkaxc.Cm Go.Proofs.Ybulkaxc.Kn Go.Proofs.Ybulkaxc.Hb Go.Proofs.Ybulkaxc.Pl2 Go.Proofs.Ybulkaxc.Tj Go.Proofs.Ybulkaxc.Hc Go.Proofs.Ybulkaxc.Mx Go.Proofs.Ybulkaxc.Cut2
set_option linter.unusedVariables false
set_option linter.unusedSimpArgs false
set_option maxRecDepth 100000 in
set_option maxHeartbeats 8000000 in
theorem loop23 (d0 d1 d2 d3 d4 d5 d6 d7 d8 d9 d11 d12 d13 d15 d16 d17 d18 d19 d20 d21 d22 d23 d24 d25 d26 d27 d28 d29 d30 d31 d32 d33 d34 d35 d36 d37 d38 d39 d40 d41 d42 d43 d44 d45 d46 d47 d48 d49 d50 d51 d52 d53 d54 d55 d56 d57 d58 d59 d60 d61 d62 d63 d64 d65 d66 d67 d68 d69 d70 d71 d72 d73 d74 d75 d76 d77 d78 d79 d80 d81 d82 d83 d84 d85 d86 d87 d88 d89 d90 d91 d92 d93 d94 d95 d96 d97 d98 d99 d100 d101 d102 d103 d104 d105 d106 d107 d108 d109 d110 d111 d112 d113 d114 d115 d116 d117 d118 d119 d120 d121 d122 d123 d124 d125 d126 d127 d128 d129 d130 d131 d132 d133 d134 d135 d136 d137 d138 d139 d140 d141 d142 d143 d144 d145 d146 d147 d148 d149 d150 d151 d152 d153 d154 d155 d156 d157 d158 d159 d160 d161 d162 d163 d164 d165 d166 d167 d168 d169 d170 d171 d172 d173 d174 d175 d176 d177 d178 d179 d180 d181 d182 d183 d184 d185 d186 d187 d188 d189 d190 d191 d192 d193 d194 d195 d196 d197 d198 d199 d200 d201 d202 d203 d204 d205 d206 d207 d208 d209 d210 d211 d212 d213 d214 d215 d216 d217 d218 d219 d220 d221 d222 d223 d224 d225 d226 d227 d228 d229 d230 d231 d232 d233 d234 d235 d236 d237 d238 d239 d240 d241 d242 d243 d244 d245 d246 d247 d248 d249 d250 d251 d252 d253 d254 d255 d256 d257 d258 d259 d260 d261 d262 d263 d264 d265 d266 d267 d268 d269 d270 d271 d272 d273 d274 d275 d276 d277 d278 d279 d280 d281 d282 d283 d284 d285 d286 d287 d288 d289 d290 d291 d292 d293 d294 d295 d296 d297 d298 d299 d300 d301 d302 d303 d304 d305 d306 d307 d308 d309 d310 d311 d312 d313 d314 d315 d316 d317 d318 d319 d320 d321 d322 d323 d324 d325 d326 d327 d328 d329 d330 d331 d332 d333 d334 d335 d336 d337 d338 d339 d340 d341 d342 d343 d344 d345 d346 d347 d348 d349 d350 d351 d352 d353 d354 d355 d356 d357 d358 d359 d360 d361 d362 d363 d364 d365 d366 d367 d368 d369 d370 d371 d372 d373 d374 d375 d376 d377 d378 d379 d380 d381 d382 d383 d384 d385 d386 d387 d388 d389 d390 d391 d392 d393 d394 d395 d396 d397 d398 d399 d400 d401 d402 d403 d404 d405 d406 d407 d408 d409 d410 d411 d412 d413 d414 d415 d416 d417 d418 d419 d420 d421 d422 d423 d424 d425 d426 d427 d428 d429 d430 d431 d432 d433 d434 d435 d436 d437 d438 d439 d440 d441 d442 d443 d444 : Value) (w w1 : World) (nn gst : Nat) (ts : List Nat) (l0 : List Int) (hm2 : ts.length ≤ 1000) (hnn : nn ≤ 16) (hgst : w.heap.size ≤ gst)
    (ho : Own .i32 21 w1 w.heap.size (.slice (some ⟨gst, 0, none⟩) (nn + 1) (nn + 1)) l0) (hc : Cnt ts nn ts.length l0) (t1 : Tch Non w w1)
    (K1 K2 : Act → World → Prop) (Q : Exit → Act → World → Prop) (hK2 : ∀ a w', Code.wp Yba.prog (snd (fst ((Yba.f4.body.bind (tailAt 23)).getD .skip))) (Exit.then K1 Q) a w' → K2 a w')
    (hK1 : ∀ (x17 x127 x128 x129 x130 x131 x132 x133 x134 x135 x136 x137 x138 x139 x140 x141 x142 : Value) (wr : World) (l : List Int), Own .i32 21 wr w.heap.size (.slice (some ⟨gst, 0, none⟩) (nn + 1) (nn + 1)) l → Pre ts nn nn l → Tch Non w wr → K1 ⟨#[d0, d1, d2, d3, d4, d5, d6, d7, d8, d9, .int .i64 (nn : Int), d11, d12, d13, .slice (some ⟨gst, 0, none⟩) (nn + 1) (nn + 1), d15, d16, x17, d18, d19, d20, d21, d22, d23, d24, d25, d26, d27, d28, d29, d30, d31, d32, d33, d34, d35, d36, d37, d38, d39, d40, d41, d42, d43, d44, d45, d46, d47, d48, d49, d50, d51, d52, d53, d54, d55, d56, d57, d58, d59, d60, d61, d62, d63, d64, d65, d66, d67, d68, d69, d70, d71, d72, d73, d74, d75, d76, d77, d78, d79, d80, d81, d82, d83, d84, d85, d86, d87, d88, d89, d90, d91, d92, d93, d94, d95, d96, d97, d98, d99, d100, d101, d102, d103, d104, d105, d106, d107, d108, d109, d110, d111, d112, d113, d114, d115, d116, d117, d118, d119, d120, d121, d122, d123, d124, d125, d126, x127, x128, x129, x130, x131, x132, x133, x134, x135, x136, x137, x138, x139, x140, x141, x142, d143, d144, d145, d146, d147, d148, d149, d150, d151, d152, d153, d154, d155, d156, d157, d158, d159, d160, d161, d162, d163, d164, d165, d166, d167, d168, d169, d170, d171, d172, d173, d174, d175, d176, d177, d178, d179, d180, d181, d182, d183, d184, d185, d186, d187, d188, d189, d190, d191, d192, d193, d194, d195, d196, d197, d198, d199, d200, d201, d202, d203, d204, d205, d206, d207, d208, d209, d210, d211, d212, d213, d214, d215, d216, d217, d218, d219, d220, d221, d222, d223, d224, d225, d226, d227, d228, d229, d230, d231, d232, d233, d234, d235, d236, d237, d238, d239, d240, d241, d242, d243, d244, d245, d246, d247, d248, d249, d250, d251, d252, d253, d254, d255, d256, d257, d258, d259, d260, d261, d262, d263, d264, d265, d266, d267, d268, d269, d270, d271, d272, d273, d274, d275, d276, d277, d278, d279, d280, d281, d282, d283, d284, d285, d286, d287, d288, d289, d290, d291, d292, d293, d294, d295, d296, d297, d298, d299, d300, d301, d302, d303, d304, d305, d306, d307, d308, d309, d310, d311, d312, d313, d314, d315, d316, d317, d318, d319, d320, d321, d322, d323, d324, d325, d326, d327, d328, d329, d330, d331, d332, d333, d334, d335, d336, d337, d338, d339, d340, d341, d342, d343, d344, d345, d346, d347, d348, d349, d350, d351, d352, d353, d354, d355, d356, d357, d358, d359, d360, d361, d362, d363, d364, d365, d366, d367, d368, d369, d370, d371, d372, d373, d374, d375, d376, d377, d378, d379, d380, d381, d382, d383, d384, d385, d386, d387, d388, d389, d390, d391, d392, d393, d394, d395, d396, d397, d398, d399, d400, d401, d402, d403, d404, d405, d406, d407, d408, d409, d410, d411, d412, d413, d414, d415, d416, d417, d418, d419, d420, d421, d422, d423, d424, d425, d426, d427, d428, d429, d430, d431, d432, d433, d434, d435, d436, d437, d438, d439, d440, d441, d442, d443, d444], []⟩ wr) :
    Code.wp Yba.prog (fst (fst ((Yba.f4.body.bind (tailAt 23)).getD .skip))) (Exit.then K2 (Exit.then K1 Q)) ⟨#[d0, d1, d2, d3, d4, d5, d6, d7, d8, d9, .int .i64 (nn : Int), d11, d12, d13, .slice (some ⟨gst, 0, none⟩) (nn + 1) (nn + 1), d15, d16, d17, d18, d19, d20, d21, d22, d23, d24, d25, d26, d27, d28, d29, d30, d31, d32, d33, d34, d35, d36, d37, d38, d39, d40, d41, d42, d43, d44, d45, d46, d47, d48, d49, d50, d51, d52, d53, d54, d55, d56, d57, d58, d59, d60, d61, d62, d63, d64, d65, d66, d67, d68, d69, d70, d71, d72, d73, d74, d75, d76, d77, d78, d79, d80, d81, d82, d83, d84, d85, d86, d87, d88, d89, d90, d91, d92, d93, d94, d95, d96, d97, d98, d99, d100, d101, d102, d103, d104, d105, d106, d107, d108, d109, d110, d111, d112, d113, d114, d115, d116, d117, d118, d119, d120, d121, d122, d123, d124, d125, d126, d127, d128, d129, d130, d131, d132, d133, d134, d135, d136, d137, d138, d139, d140, d141, d142, d143, d144, d145, d146, d147, d148, d149, d150, d151, d152, d153, d154, d155, d156, d157, d158, d159, d160, d161, d162, d163, d164, d165, d166, d167, d168, d169, d170, d171, d172, d173, d174, d175, d176, d177, d178, d179, d180, d181, d182, d183, d184, d185, d186, d187, d188, d189, d190, d191, d192, d193, d194, d195, d196, d197, d198, d199, d200, d201, d202, d203, d204, d205, d206, d207, d208, d209, d210, d211, d212, d213, d214, d215, d216, d217, d218, d219, d220, d221, d222, d223, d224, d225, d226, d227, d228, d229, d230, d231, d232, d233, d234, d235, d236, d237, d238, d239, d240, d241, d242, d243, d244, d245, d246, d247, d248, d249, d250, d251, d252, d253, d254, d255, d256, d257, d258, d259, d260, d261, d262, d263, d264, d265, d266, d267, d268, d269, d270, d271, d272, d273, d274, d275, d276, d277, d278, d279, d280, d281, d282, d283, d284, d285, d286, d287, d288, d289, d290, d291, d292, d293, d294, d295, d296, d297, d298, d299, d300, d301, d302, d303, d304, d305, d306, d307, d308, d309, d310, d311, d312, d313, d314, d315, d316, d317, d318, d319, d320, d321, d322, d323, d324, d325, d326, d327, d328, d329, d330, d331, d332, d333, d334, d335, d336, d337, d338, d339, d340, d341, d342, d343, d344, d345, d346, d347, d348, d349, d350, d351, d352, d353, d354, d355, d356, d357, d358, d359, d360, d361, d362, d363, d364, d365, d366, d367, d368, d369, d370, d371, d372, d373, d374, d375, d376, d377, d378, d379, d380, d381, d382, d383, d384, d385, d386, d387, d388, d389, d390, d391, d392, d393, d394, d395, d396, d397, d398, d399, d400, d401, d402, d403, d404, d405, d406, d407, d408, d409, d410, d411, d412, d413, d414, d415, d416, d417, d418, d419, d420, d421, d422, d423, d424, d425, d426, d427, d428, d429, d430, d431, d432, d433, d434, d435, d436, d437, d438, d439, d440, d441, d442, d443, d444], []⟩ w1 := by
  conv => arg 2; whnf
  conv at hK2 => enter [a, w', 1, 2]; whnf
  have HK := hide hK1
  clear hK1
  have HP0 := hide (show ∃ l, Own .i32 21 w1 w.heap.size (.slice (some ⟨gst, 0, none⟩) (nn + 1) (nn + 1)) l ∧ Pre ts nn 0 l ∧ Tch Non w w1 from ⟨_, ho, hc.pre, t1⟩)
  clear ho t1 hc
  go_wp2_with fail
  go_loopw [17] (fun t wq => ∃ k : Nat, k ≤ nn ∧ t = .int .i64 (k : Int) ∧ ∃ l, Own .i32 21 wq w.heap.size (.slice (some ⟨gst, 0, none⟩) (nn + 1) (nn + 1)) l ∧ Pre ts nn k l ∧ Tch Non w wq) (fun t _ => nn - (intOf t).toNat)
  case atStart => exact ⟨0, Nat.zero_le _, rfl, HP0.out⟩
  case round =>
    clear HP0
    obtain ⟨q, hq, rfl, l, q1, q2, q3⟩ := hrel
    by_cases hlt : q < nn
    · have c6 := q1.at (q2.hi q (Nat.le_refl _) hlt)
      have c7 := q1.at (q2.lo q (Nat.le_refl _))
      have z6 := q1.frozen (q + 1)
      have HS := hide (show ∃ l, Own .i32 21 (wr.setCell ⟨gst, q + 1, none⟩ (.int .i32 ((ts.count q : Nat) + (below ts q : Nat) : Int))) w.heap.size (.slice (some ⟨gst, 0, none⟩) (nn + 1) (nn + 1)) l ∧ Pre ts nn (q + 1) l ∧ Tch Non w (wr.setCell ⟨gst, q + 1, none⟩ (.int .i32 ((ts.count q : Nat) + (below ts q : Nat) : Int))) from ⟨_, q1.set (q + 1) _, q2.step hlt, q3.setCell (.inr hgst) _⟩)
      have hb1 := below_le ts (q + 1)
      rw [below_succ] at hb1
      generalize ts.count q = c at *
      generalize below ts q = b at *
      clear q1 q2 q3
      have e0 : (q : Int) < (nn : Int) := by omega
      have e1 : (q : Int) < (nn : Int) + 1 := by omega
      have e2 : (q : Int) + 1 < (nn : Int) + 1 := by omega
      go_upto_region 26 with fail
      go_region
      all_goals
        go_wp2_with fail
        go_roundw
        case rel =>
          obtain ⟨l3, r1, r2, r3⟩ := HS.out
          exact ⟨q + 1, by omega, by go_num, l3, r1.keep ⟨rfl, rfl, rfl, Nat.le_refl _, fun _ _ _ => rfl⟩, r2, r3.also ⟨rfl, rfl, rfl, Nat.le_refl _, fun _ _ _ => rfl⟩⟩
        case measure => simp [intOf]; omega
    · obtain rfl : nn = q := by omega
      have HE := hide (And.intro q1 (And.intro q2 q3))
      clear q1 q2 q3
      go_wp2_with fail
      exact HK.out _ _ _ _ _ _ _ _ _ _ _ _ _ _ _ _ _ wr l HE.out.1 HE.out.2.1 HE.out.2.2
end Go.Proofs.Ybulkaxc.Law
