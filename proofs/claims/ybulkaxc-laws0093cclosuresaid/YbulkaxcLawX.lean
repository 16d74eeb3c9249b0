/-
  LawS0093CClosure (4), the walk from the keys on.
-/
import Derived.Test.YbulkaxcLawY
import Derived.Test.YbulkaxcLoop50
namespace Go.Proofs.Ybulkaxc.Law
open Go Go.RowKit Go.Proofs.Ybulkaxc.M2 Go.Proofs.Ybulkaxc.Cm Go.Proofs.Ybulkaxc.Kn Go.Proofs.Ybulkaxc.Hb Go.Proofs.Ybulkaxc.Pl2 Go.Proofs.Ybulkaxc.Tj Go.Proofs.Ybulkaxc.Hc Go.Proofs.Ybulkaxc.Mx Go.Proofs.Ybulkaxc.Cut2
set_option linter.unusedVariables false
set_option linter.unusedSimpArgs false

theorem KQ.out {w wr : World} {pt : List Bool} {ks : List (List Nat)} {ak aw : Option Addr} {nk ck nh cw nn : Nat} (h : KQ w pt ks (.slice ak nk ck) (.slice aw nh cw) wr) (hr : ∀ ws ∈ ks, ws.length ≤ 64 ∧ ∀ x ∈ ws, x < nn) : Kw wr ak nk nn ks ∧ Hw wr aw nh (hubs pt ks) ∧ Tch Non w wr := by
  obtain ⟨tag, a1, n1, c1, a2, n2, c2, kv, hv, e1, e2, hb, ht, h1, h2, h3, h4⟩ := h
  cases e1
  cases e2
  have r1 : wr.ownsRow w.heap.size 49 4 (.slice ak nk ck) kv.length (kcells kv) := hb.say 1
  have r2 : wr.ownsRow w.heap.size 23 1 (.slice aw nh cw) hv.length hv := hb.say 2
  have l1 : kv.length = nk := by
    rcases r1.2 with ⟨e, e'⟩ | ⟨g, cap, cur, e, _⟩
    · cases e; exact e'
    · cases e; rfl
  have l2 : hv.length = nh := by
    rcases r2.2 with ⟨e, e'⟩ | ⟨g, cap, cur, e, _⟩
    · cases e; exact e'
    · cases e; rfl
  refine ⟨⟨by omega, fun k ws hk => ?_, hr⟩, ⟨by omega, fun i l hi => ?_⟩, Cm.TB.toNon ht⟩
  · obtain ⟨v, hv1, a, c, rfl, hs, _⟩ := h2 k ws hk
    have hlt := (List.getElem?_eq_some_iff.1 hv1).1
    rcases r1.2 with ⟨e, e'⟩ | ⟨g, cap, cur, e, _⟩
    · omega
    · cases e
      refine ⟨g, a, c, rfl, ?_, hs⟩
      have := World.ownsRow.cellAt r1 (k * 4 + 1) (by omega)
      rw [this]
      exact kcells_at kv k _ hv1
  · obtain ⟨v, hv1, a, c, rfl, hs, _⟩ := h4 i l hi
    have hlt := (List.getElem?_eq_some_iff.1 hv1).1
    rcases r2.2 with ⟨e, e'⟩ | ⟨g, cap, cur, e, _⟩
    · omega
    · cases e
      refine ⟨g, a, c, rfl, ?_, hs⟩
      have := World.ownsRow.cellAt r2 i (by omega)
      rw [this]
      exact hv1
theorem wsOf_rng {nn : Nat} {kb : List (List Nat)} (h : ∀ l ∈ kb, l.length ≤ 64 ∧ ∀ y ∈ l, y ≤ 255) : ∀ ws ∈ kb.map (wsOf nn), ws.length ≤ 64 ∧ ∀ x ∈ ws, x < nn := by
  intro ws hw
  rw [List.mem_map] at hw
  obtain ⟨l, hl, rfl⟩ := hw
  unfold wsOf
  split
  · simp
  · rename_i hn
    refine ⟨by rw [List.length_map]; exact (h l hl).1, fun x hx => ?_⟩
    rw [List.mem_map] at hx
    obtain ⟨y, _, rfl⟩ := hx
    exact Nat.mod_lt _ (by omega)

set_option maxRecDepth 100000 in
set_option maxHeartbeats 8000000 in
theorem segX (d0 d1 d3 d4 d5 d6 d7 d8 d9 d13 d15 d16 d17 d19 d20 d21 d23 d25 d26 d27 d28 d29 d30 d31 d32 d33 d34 d35 d36 d37 d38 d39 d40 d41 d42 d43 d44 d45 d46 d47 d48 d49 d50 d51 d52 d53 d54 d55 d56 d57 d58 d59 d60 d61 d62 d63 d64 d65 d66 d67 d68 d69 d70 d71 d72 d73 d74 d75 d76 d77 d78 d79 d80 d81 d82 d83 d84 d85 d86 d87 d88 d89 d90 d91 d92 d93 d94 d95 d96 d97 d98 d99 d100 d101 d102 d103 d104 d105 d106 d107 d108 d109 d110 d111 d112 d113 d114 d115 d116 d117 d118 d119 d120 d121 d122 d123 d124 d125 d126 d127 d128 d129 d130 d131 d132 d133 d134 d135 d136 d137 d138 d139 d140 d141 d142 d143 d144 d145 d146 d147 d148 d149 d150 d151 d152 d153 d154 d155 d156 d157 d158 d159 d160 d161 d162 d163 d164 d165 d166 d167 d168 d169 d170 d171 d172 d173 d174 d175 d176 d177 d178 d179 d180 d181 d182 d183 d184 d185 d186 d187 d188 d189 d190 d191 d192 d193 d194 d195 d196 d197 d198 d199 d200 d201 d202 d203 d204 d205 d206 d207 d208 d209 d210 d211 d212 d213 d214 d215 d216 d217 d218 d219 d220 d221 d222 d223 d224 d225 d226 d227 d228 d229 d230 d231 d232 d233 d234 d235 d236 d237 d238 d239 d240 d241 d242 d243 d244 d245 d246 d247 d248 d249 d250 d251 d252 d253 d254 d255 d256 d257 d258 d259 d260 d261 d262 d263 d264 d265 d266 d267 d268 d269 d270 d271 d272 d273 d274 d275 d276 d277 d278 d279 d280 d281 d282 d283 d284 d285 d286 d287 d288 d289 d290 d291 d292 d293 d294 d295 d296 d297 d298 d299 d300 d301 d302 d303 d304 d305 d306 d307 d308 d309 d310 d311 d312 d313 d314 d315 d316 d317 d318 d319 d320 d321 d322 d323 d324 d325 d326 d327 d328 d329 d330 d331 d332 d333 d334 d335 d336 d337 d338 d339 d340 d341 d342 d343 d344 d345 d346 d347 d348 d349 d350 d351 d352 d353 d354 d355 d356 d357 d358 d359 d360 d361 d362 d363 d364 d365 d366 d367 d368 d369 d370 d371 d372 d373 d374 d375 d376 d377 d378 d379 d380 d381 d382 d383 d384 d385 d386 d387 d388 d389 d390 d391 d392 d393 d394 d395 d396 d397 d398 d399 d400 d401 d402 d403 d404 d405 d406 d407 d408 d409 d410 d411 d412 d413 d414 d415 d416 d417 d418 d419 d420 d421 d422 d423 d424 d425 d426 d427 d428 d429 d430 d431 d432 d433 d434 d435 d436 d437 d438 d439 d440 d441 d442 d443 d444 : Value) (w0 w : World) (nn m n2 gp gop gst ghd : Nat) (at1 ah a2 : Option Addr) (ct ch c2 : Nat) (A0 : List (Nat × Nat)) (kb : List (List Nat)) (pt : List Bool) (st hd : List Int)
    (hT : Src .i32 w (.slice at1 m ct) (castN (A0.map Prod.fst))) (hH : Src .i32 w (.slice ah m ch) (castN (A0.map Prod.snd))) (hm : A0.length = m) (hS : Own .i32 21 w 0 (.slice (some ⟨gst, 0, none⟩) (nn + 1) (nn + 1)) st) (hD : Own .i32 21 w 0 (.slice (some ⟨ghd, 0, none⟩) m m) hd) (hcsr : CSR A0 nn st hd)
    (hP : Pb w gp nn pt) (hO : Pb w gop nn (List.replicate nn true)) (hKS : Ksrc w (.slice a2 n2 c2) kb) (hA : ∀ a b, (a, b) ∈ A0 → a < nn ∧ b < nn) (hnn : nn ≤ 16) (hn2 : n2 ≤ 64) (hkb : ∀ l ∈ kb, l.length ≤ 64 ∧ ∀ y ∈ l, y ≤ 255) (hm2 : m ≤ 1000) (t0 : Tch Non w0 w)
    (K : Act → World → Prop) (hK : ∀ a w', Code.wp Yba.prog (snd ((Yba.f4.body.bind (tailAt 48)).getD .skip)) (LPost w0) a w' → K a w') :
    Code.wp Yba.prog (fst ((Yba.f4.body.bind (tailAt 48)).getD .skip)) (Exit.then K (LPost w0)) ⟨#[d0, d1, .slice a2 n2 c2, d3, d4, d5, d6, d7, d8, d9, .int .i64 (nn : Int), .slice at1 m ct, .slice ah m ch, d13, .slice (some ⟨gst, 0, none⟩) (nn + 1) (nn + 1), d15, d16, d17, .slice (some ⟨ghd, 0, none⟩) m m, d19, d20, d21, .slice (some ⟨gp, 0, none⟩) nn nn, d23, .slice (some ⟨gop, 0, none⟩) nn nn, d25, d26, d27, d28, d29, d30, d31, d32, d33, d34, d35, d36, d37, d38, d39, d40, d41, d42, d43, d44, d45, d46, d47, d48, d49, d50, d51, d52, d53, d54, d55, d56, d57, d58, d59, d60, d61, d62, d63, d64, d65, d66, d67, d68, d69, d70, d71, d72, d73, d74, d75, d76, d77, d78, d79, d80, d81, d82, d83, d84, d85, d86, d87, d88, d89, d90, d91, d92, d93, d94, d95, d96, d97, d98, d99, d100, d101, d102, d103, d104, d105, d106, d107, d108, d109, d110, d111, d112, d113, d114, d115, d116, d117, d118, d119, d120, d121, d122, d123, d124, d125, d126, d127, d128, d129, d130, d131, d132, d133, d134, d135, d136, d137, d138, d139, d140, d141, d142, d143, d144, d145, d146, d147, d148, d149, d150, d151, d152, d153, d154, d155, d156, d157, d158, d159, d160, d161, d162, d163, d164, d165, d166, d167, d168, d169, d170, d171, d172, d173, d174, d175, d176, d177, d178, d179, d180, d181, d182, d183, d184, d185, d186, d187, d188, d189, d190, d191, d192, d193, d194, d195, d196, d197, d198, d199, d200, d201, d202, d203, d204, d205, d206, d207, d208, d209, d210, d211, d212, d213, d214, d215, d216, d217, d218, d219, d220, d221, d222, d223, d224, d225, d226, d227, d228, d229, d230, d231, d232, d233, d234, d235, d236, d237, d238, d239, d240, d241, d242, d243, d244, d245, d246, d247, d248, d249, d250, d251, d252, d253, d254, d255, d256, d257, d258, d259, d260, d261, d262, d263, d264, d265, d266, d267, d268, d269, d270, d271, d272, d273, d274, d275, d276, d277, d278, d279, d280, d281, d282, d283, d284, d285, d286, d287, d288, d289, d290, d291, d292, d293, d294, d295, d296, d297, d298, d299, d300, d301, d302, d303, d304, d305, d306, d307, d308, d309, d310, d311, d312, d313, d314, d315, d316, d317, d318, d319, d320, d321, d322, d323, d324, d325, d326, d327, d328, d329, d330, d331, d332, d333, d334, d335, d336, d337, d338, d339, d340, d341, d342, d343, d344, d345, d346, d347, d348, d349, d350, d351, d352, d353, d354, d355, d356, d357, d358, d359, d360, d361, d362, d363, d364, d365, d366, d367, d368, d369, d370, d371, d372, d373, d374, d375, d376, d377, d378, d379, d380, d381, d382, d383, d384, d385, d386, d387, d388, d389, d390, d391, d392, d393, d394, d395, d396, d397, d398, d399, d400, d401, d402, d403, d404, d405, d406, d407, d408, d409, d410, d411, d412, d413, d414, d415, d416, d417, d418, d419, d420, d421, d422, d423, d424, d425, d426, d427, d428, d429, d430, d431, d432, d433, d434, d435, d436, d437, d438, d439, d440, d441, d442, d443, d444], []⟩ w := by
  conv => arg 2; whnf
  conv at hK => enter [a, w', 1, 2]; whnf
  have HT := hide hT
  have HH := hide hH
  have HS := hide hS
  have HD := hide hD
  have HC := hide hcsr
  have HP := hide hP
  have HO := hide hO
  have HKS := hide hKS
  have HA := hide hA
  have HKB := hide hkb
  have T0 := hide t0
  clear hT hH hS hD hcsr hP hO hKS hA hkb t0
  go_upto_region 50 with fail
  rename_i K1 h1 K2 h2
  refine loop50 _ _ _ _ _ _ _ _ _ _ _ _ _ _ _ _ _ _ _ _ _ _ _ _ _ _ _ _ _ _ _ _ _ _ _ _ _ _ _ _ _ _ _ _ _ _ _ _ _ _ _ _ _ _ _ _ _ _ _ _ _ _ _ _ _ _ _ _ _ _ _ _ _ _ _ _ _ _ _ _ _ _ _ _ _ _ _ _ _ _ _ _ _ _ _ _ _ _ _ _ _ _ _ _ _ _ _ _ _ _ _ _ _ _ _ _ _ _ _ _ _ _ _ _ _ _ _ _ _ _ _ _ _ _ _ _ _ _ _ _ _ _ _ _ _ _ _ _ _ _ _ _ _ _ _ _ _ _ _ _ _ _ _ _ _ _ _ _ _ _ _ _ _ _ _ _ _ _ _ _ _ _ _ _ _ _ _ _ _ _ _ _ _ _ _ _ _ _ _ _ _ _ _ _ _ _ _ _ _ _ _ _ _ _ _ _ _ _ _ _ _ _ _ _ _ _ _ _ _ _ _ _ _ _ _ _ _ _ _ _ _ _ _ _ _ _ _ _ _ _ _ _ _ _ _ _ _ _ _ _ _ _ _ _ _ _ _ _ _ _ _ _ _ _ _ _ _ _ _ _ _ _ _ _ _ _ _ _ _ _ _ _ _ _ _ _ _ _ _ _ _ _ _ _ _ _ _ _ _ _ _ _ _ _ _ _ _ _ _ _ _ _ _ _ _ _ _ _ _ _ _ _ _ _ _ _ _ _ _ _ _ _ _ _ _ _ _ _ _ _ _ _ _ _ _ _ _ _ _ _ _ _ _ _ _ _ _ _ _ _ _ _ _ _ _ _ _ _ _ _ _ _ _ _ _ _ _ _ _ _ _ _ _ _ _ _ _ _ _ _ _ _ _ _ _ _ _ _ _ _ _ _ _ _ _ _ _ _ _ _ _ _ _ _ _ _ _ _ _ _ _ _ _ _ _ _ _ _ _ _ w nn n2 gp a2 c2 kb pt HKS.out HP.out HKB.out hn2 hnn K1 K2 _ h2 ?_
  intro y50_29 y50_30 y50_31 y50_33 y50_34 y50_209 y50_210 y50_211 y50_212 y50_213 y50_214 y50_215 y50_216 y50_217 y50_218 y50_219 y50_220 y50_221 y50_222 y50_223 y50_224 y50_225 y50_226 y50_227 y50_228 y50_229 y50_230 y50_231 y50_232 y50_233 y50_234 y50_235 y50_236 y50_237 y50_238 y50_239 y50_240 y50_241 y50_242 y50_243 y50_244 y50_245 y50_246 y50_247 y50_248 y50_249 y50_250 y50_251 y50_252 y50_253 ak aw nk ck nh cw wr hkq
  have HQ := hide (KQ.out hkq (wsOf_rng HKB.out))
  clear hkq
  refine h1 _ _ ?_
  clear h1 h2 K1 K2
  go_upto_region 67 with fail
  rename_i K1 h1
  have hnk : nk ≤ 64 := by
    have h2 := HQ.out.1.len
    rw [List.length_map, HKS.out.len] at h2
    omega
  exact segY _ _ _ _ _ _ _ _ _ _ _ _ _ _ _ _ _ _ _ _ _ _ _ _ _ _ _ _ _ _ _ _ _ _ _ _ _ _ _ _ _ _ _ _ _ _ _ _ _ _ _ _ _ _ _ _ _ _ _ _ _ _ _ _ _ _ _ _ _ _ _ _ _ _ _ _ _ _ _ _ _ _ _ _ _ _ _ _ _ _ _ _ _ _ _ _ _ _ _ _ _ _ _ _ _ _ _ _ _ _ _ _ _ _ _ _ _ _ _ _ _ _ _ _ _ _ _ _ _ _ _ _ _ _ _ _ _ _ _ _ _ _ _ _ _ _ _ _ _ _ _ _ _ _ _ _ _ _ _ _ _ _ _ _ _ _ _ _ _ _ _ _ _ _ _ _ _ _ _ _ _ _ _ _ _ _ _ _ _ _ _ _ _ _ _ _ _ _ _ _ _ _ _ _ _ _ _ _ _ _ _ _ _ _ _ _ _ _ _ _ _ _ _ _ _ _ _ _ _ _ _ _ _ _ _ _ _ _ _ _ _ _ _ _ _ _ _ _ _ _ _ _ _ _ _ _ _ _ _ _ _ _ _ _ _ _ _ _ _ _ _ _ _ _ _ _ _ _ _ _ _ _ _ _ _ _ _ _ _ _ _ _ _ _ _ _ _ _ _ _ _ _ _ _ _ _ _ _ _ _ _ _ _ _ _ _ _ _ _ _ _ _ _ _ _ _ _ _ _ _ _ _ _ _ _ _ _ _ _ _ _ _ _ _ _ _ _ _ _ _ _ _ _ _ _ _ _ _ _ _ _ _ _ _ _ _ _ _ _ _ _ _ _ _ _ _ _ _ _ _ _ _ _ _ _ _ _ _ _ _ _ _ _ _ _ _ _ _ _ _ _ _ _ _ _ _ _ _ _ _ _ _ _ _ _ _ _ _ _ _ _ _ _ _ _ _ _ _ _ _ _ _ _ _ _ _ w0 wr nn m nk nh gp gop gst ghd at1 ah ak aw ct ch ck cw A0 (kb.map (wsOf nn)) pt st hd (Kn.Src.keep HT.out HQ.out.2.2) (Kn.Src.keep HH.out HQ.out.2.2) hm (HS.out.keep HQ.out.2.2) (HD.out.keep HQ.out.2.2) HC.out (HP.out.keep HQ.out.2.2) (HO.out.keep HQ.out.2.2) HQ.out.1 HQ.out.2.1 HA.out hnn hnk hm2 (T0.out.also HQ.out.2.2) K1 h1
end Go.Proofs.Ybulkaxc.Law
