/-
  LawS0093CClosure (4), the walk from the part on.
-/
import Derived.Test.YbulkaxcLawX
import Derived.Test.YbulkaxcLoop37
import Derived.Test.YbulkaxcLoop43
namespace Go.Proofs.Ybulkaxc.Law
open Go Go.RowKit Go.Proofs.Ybulkaxc.M2 Go.Proofs.Ybulkaxc.Cm Go.Proofs.Ybulkaxc.Kn Go.Proofs.Ybulkaxc.Hb Go.Proofs.Ybulkaxc.Pl2 Go.Proofs.Ybulkaxc.Tj Go.Proofs.Ybulkaxc.Hc Go.Proofs.Ybulkaxc.Mx Go.Proofs.Ybulkaxc.Cut2
set_option linter.unusedVariables false
set_option linter.unusedSimpArgs false

theorem OwnB.pb {w : World} {B g nn : Nat} {l : List Bool} (h : OwnB w B (.slice (some ⟨g, 0, none⟩) nn nn) l) : Pb w g nn l := ⟨h.len, fun i b hi => OwnB.cell h hi⟩

set_option maxRecDepth 100000 in
set_option maxHeartbeats 8000000 in
theorem segW (d0 d1 d4 d5 d6 d7 d8 d9 d13 d15 d16 d17 d19 d20 d21 d22 d23 d24 d25 d26 d27 d28 d29 d30 d31 d32 d33 d34 d35 d36 d37 d38 d39 d40 d41 d42 d43 d44 d45 d46 d47 d48 d49 d50 d51 d52 d53 d54 d55 d56 d57 d58 d59 d60 d61 d62 d63 d64 d65 d66 d67 d68 d69 d70 d71 d72 d73 d74 d75 d76 d77 d78 d79 d80 d81 d82 d83 d84 d85 d86 d87 d88 d89 d90 d91 d92 d93 d94 d95 d96 d97 d98 d99 d100 d101 d102 d103 d104 d105 d106 d107 d108 d109 d110 d111 d112 d113 d114 d115 d116 d117 d118 d119 d120 d121 d122 d123 d124 d125 d126 d127 d128 d129 d130 d131 d132 d133 d134 d135 d136 d137 d138 d139 d140 d141 d142 d143 d144 d145 d146 d147 d148 d149 d150 d151 d152 d153 d154 d155 d156 d157 d158 d159 d160 d161 d162 d163 d164 d165 d166 d167 d168 d169 d170 d171 d172 d173 d174 d175 d176 d177 d178 d179 d180 d181 d182 d183 d184 d185 d186 d187 d188 d189 d190 d191 d192 d193 d194 d195 d196 d197 d198 d199 d200 d201 d202 d203 d204 d205 d206 d207 d208 d209 d210 d211 d212 d213 d214 d215 d216 d217 d218 d219 d220 d221 d222 d223 d224 d225 d226 d227 d228 d229 d230 d231 d232 d233 d234 d235 d236 d237 d238 d239 d240 d241 d242 d243 d244 d245 d246 d247 d248 d249 d250 d251 d252 d253 d254 d255 d256 d257 d258 d259 d260 d261 d262 d263 d264 d265 d266 d267 d268 d269 d270 d271 d272 d273 d274 d275 d276 d277 d278 d279 d280 d281 d282 d283 d284 d285 d286 d287 d288 d289 d290 d291 d292 d293 d294 d295 d296 d297 d298 d299 d300 d301 d302 d303 d304 d305 d306 d307 d308 d309 d310 d311 d312 d313 d314 d315 d316 d317 d318 d319 d320 d321 d322 d323 d324 d325 d326 d327 d328 d329 d330 d331 d332 d333 d334 d335 d336 d337 d338 d339 d340 d341 d342 d343 d344 d345 d346 d347 d348 d349 d350 d351 d352 d353 d354 d355 d356 d357 d358 d359 d360 d361 d362 d363 d364 d365 d366 d367 d368 d369 d370 d371 d372 d373 d374 d375 d376 d377 d378 d379 d380 d381 d382 d383 d384 d385 d386 d387 d388 d389 d390 d391 d392 d393 d394 d395 d396 d397 d398 d399 d400 d401 d402 d403 d404 d405 d406 d407 d408 d409 d410 d411 d412 d413 d414 d415 d416 d417 d418 d419 d420 d421 d422 d423 d424 d425 d426 d427 d428 d429 d430 d431 d432 d433 d434 d435 d436 d437 d438 d439 d440 d441 d442 d443 d444 : Value) (w0 w : World) (nn m n2 n3 gst ghd : Nat) (at1 ah a2 a3 : Option Addr) (ct ch c2 c3 : Nat) (A0 : List (Nat × Nat)) (kb : List (List Nat)) (pa : List Bool) (st hd : List Int)
    (hT : Src .i32 w (.slice at1 m ct) (castN (A0.map Prod.fst))) (hH : Src .i32 w (.slice ah m ch) (castN (A0.map Prod.snd))) (hm : A0.length = m) (hS : Own .i32 21 w 0 (.slice (some ⟨gst, 0, none⟩) (nn + 1) (nn + 1)) st) (hD : Own .i32 21 w 0 (.slice (some ⟨ghd, 0, none⟩) m m) hd) (hcsr : CSR A0 nn st hd)
    (hKS : Ksrc w (.slice a2 n2 c2) kb) (hB3 : Bsrc w (.slice a3 n3 c3) pa) (hA : ∀ a b, (a, b) ∈ A0 → a < nn ∧ b < nn) (hnn : nn ≤ 16) (hn2 : n2 ≤ 64) (hkb : ∀ l ∈ kb, l.length ≤ 64 ∧ ∀ y ∈ l, y ≤ 255) (hn3 : n3 ≤ 9223372036854775807) (hm2 : m ≤ 1000) (t0 : Tch Non w0 w)
    (K : Act → World → Prop) (hK : ∀ a w', Code.wp Yba.prog (snd ((Yba.f4.body.bind (tailAt 36)).getD .skip)) (LPost w0) a w' → K a w') :
    Code.wp Yba.prog (fst ((Yba.f4.body.bind (tailAt 36)).getD .skip)) (Exit.then K (LPost w0)) ⟨#[d0, d1, .slice a2 n2 c2, .slice a3 n3 c3, d4, d5, d6, d7, d8, d9, .int .i64 (nn : Int), .slice at1 m ct, .slice ah m ch, d13, .slice (some ⟨gst, 0, none⟩) (nn + 1) (nn + 1), d15, d16, d17, .slice (some ⟨ghd, 0, none⟩) m m, d19, d20, d21, d22, d23, d24, d25, d26, d27, d28, d29, d30, d31, d32, d33, d34, d35, d36, d37, d38, d39, d40, d41, d42, d43, d44, d45, d46, d47, d48, d49, d50, d51, d52, d53, d54, d55, d56, d57, d58, d59, d60, d61, d62, d63, d64, d65, d66, d67, d68, d69, d70, d71, d72, d73, d74, d75, d76, d77, d78, d79, d80, d81, d82, d83, d84, d85, d86, d87, d88, d89, d90, d91, d92, d93, d94, d95, d96, d97, d98, d99, d100, d101, d102, d103, d104, d105, d106, d107, d108, d109, d110, d111, d112, d113, d114, d115, d116, d117, d118, d119, d120, d121, d122, d123, d124, d125, d126, d127, d128, d129, d130, d131, d132, d133, d134, d135, d136, d137, d138, d139, d140, d141, d142, d143, d144, d145, d146, d147, d148, d149, d150, d151, d152, d153, d154, d155, d156, d157, d158, d159, d160, d161, d162, d163, d164, d165, d166, d167, d168, d169, d170, d171, d172, d173, d174, d175, d176, d177, d178, d179, d180, d181, d182, d183, d184, d185, d186, d187, d188, d189, d190, d191, d192, d193, d194, d195, d196, d197, d198, d199, d200, d201, d202, d203, d204, d205, d206, d207, d208, d209, d210, d211, d212, d213, d214, d215, d216, d217, d218, d219, d220, d221, d222, d223, d224, d225, d226, d227, d228, d229, d230, d231, d232, d233, d234, d235, d236, d237, d238, d239, d240, d241, d242, d243, d244, d245, d246, d247, d248, d249, d250, d251, d252, d253, d254, d255, d256, d257, d258, d259, d260, d261, d262, d263, d264, d265, d266, d267, d268, d269, d270, d271, d272, d273, d274, d275, d276, d277, d278, d279, d280, d281, d282, d283, d284, d285, d286, d287, d288, d289, d290, d291, d292, d293, d294, d295, d296, d297, d298, d299, d300, d301, d302, d303, d304, d305, d306, d307, d308, d309, d310, d311, d312, d313, d314, d315, d316, d317, d318, d319, d320, d321, d322, d323, d324, d325, d326, d327, d328, d329, d330, d331, d332, d333, d334, d335, d336, d337, d338, d339, d340, d341, d342, d343, d344, d345, d346, d347, d348, d349, d350, d351, d352, d353, d354, d355, d356, d357, d358, d359, d360, d361, d362, d363, d364, d365, d366, d367, d368, d369, d370, d371, d372, d373, d374, d375, d376, d377, d378, d379, d380, d381, d382, d383, d384, d385, d386, d387, d388, d389, d390, d391, d392, d393, d394, d395, d396, d397, d398, d399, d400, d401, d402, d403, d404, d405, d406, d407, d408, d409, d410, d411, d412, d413, d414, d415, d416, d417, d418, d419, d420, d421, d422, d423, d424, d425, d426, d427, d428, d429, d430, d431, d432, d433, d434, d435, d436, d437, d438, d439, d440, d441, d442, d443, d444], []⟩ w := by
  conv => arg 2; whnf
  conv at hK => enter [a, w', 1, 2]; whnf
  have HT := hide hT
  have HH := hide hH
  have HS := hide hS
  have HD := hide hD
  have HC := hide hcsr
  have HKS := hide hKS
  have HB3 := hide hB3
  have HA := hide hA
  have HKB := hide hkb
  have T0 := hide t0
  clear hT hH hS hD hcsr hKS hB3 hA hkb t0
  obtain ⟨i0, hi0, hz0, hz1, hz2⟩ := info_parts info4
  go_upto_region 37 with (first
    | (refine wpList_make_full _ rfl (.tmp 177) (.tmp 177) 44 rfl w.heap.size 4 i0 (.bool false) 1 Yba.underlying44 hi0 hz0 hz1 .i64 .i64 _ _ nn rfl rfl rfl rfl (by rw [hz2]; omega) (by unfold maxLen; omega) (Nat.le_refl _) ?_; intro w1 hown1 hgr1; have t1 : Tch Non w w1 := (Tch.refl _ _).of_grownBy hgr1 (by simp); have O1 := hide (OwnB.made hown1); have T1 := hide t1; clear hown1 hgr1 t1; simp only [Act.put, List.setIfInBounds_toArray, List.set_cons_zero, List.set_cons_succ]) | fail)
  rename_i K1 h1 K2 h2
  refine loop37 _ _ _ _ _ _ _ _ _ _ _ _ _ _ _ _ _ _ _ _ _ _ _ _ _ _ _ _ _ _ _ _ _ _ _ _ _ _ _ _ _ _ _ _ _ _ _ _ _ _ _ _ _ _ _ _ _ _ _ _ _ _ _ _ _ _ _ _ _ _ _ _ _ _ _ _ _ _ _ _ _ _ _ _ _ _ _ _ _ _ _ _ _ _ _ _ _ _ _ _ _ _ _ _ _ _ _ _ _ _ _ _ _ _ _ _ _ _ _ _ _ _ _ _ _ _ _ _ _ _ _ _ _ _ _ _ _ _ _ _ _ _ _ _ _ _ _ _ _ _ _ _ _ _ _ _ _ _ _ _ _ _ _ _ _ _ _ _ _ _ _ _ _ _ _ _ _ _ _ _ _ _ _ _ _ _ _ _ _ _ _ _ _ _ _ _ _ _ _ _ _ _ _ _ _ _ _ _ _ _ _ _ _ _ _ _ _ _ _ _ _ _ _ _ _ _ _ _ _ _ _ _ _ _ _ _ _ _ _ _ _ _ _ _ _ _ _ _ _ _ _ _ _ _ _ _ _ _ _ _ _ _ _ _ _ _ _ _ _ _ _ _ _ _ _ _ _ _ _ _ _ _ _ _ _ _ _ _ _ _ _ _ _ _ _ _ _ _ _ _ _ _ _ _ _ _ _ _ _ _ _ _ _ _ _ _ _ _ _ _ _ _ _ _ _ _ _ _ _ _ _ _ _ _ _ _ _ _ _ _ _ _ _ _ _ _ _ _ _ _ _ _ _ _ _ _ _ _ _ _ _ _ _ _ _ _ _ _ _ _ _ _ _ _ _ _ _ _ _ _ _ _ _ _ _ _ _ _ _ _ _ _ _ _ _ _ _ _ _ _ _ _ _ _ _ _ _ _ _ _ _ _ _ _ _ _ _ _ _ _ _ _ _ _ _ _ _ _ _ _ _ _ _ _ _ _ _ _ _ _ _ _ _ w w1 nn n3 w.heap.size a3 c3 pa HB3.out hnn hn3 (Nat.le_refl _) O1.out T1.out K1 K2 _ h2 ?_
  intro y37_23 y37_179 y37_180 y37_181 y37_182 y37_183 y37_184 y37_185 y37_186 y37_187 y37_188 y37_189 y37_190 y37_191 y37_192 y37_193 y37_194 y37_195 y37_196 y37_197 wr o2 t2
  have O2 := hide o2
  have T2 := hide t2
  clear o2 t2 O1 T1
  refine h1 _ _ ?_
  clear h1 h2 K1 K2
  generalize w.heap.size = gp at *
  go_upto_region 43 with (first
    | (refine wpList_make_full _ rfl (.tmp 198) (.tmp 198) 44 rfl wr.heap.size 4 i0 (.bool false) 1 Yba.underlying44 hi0 hz0 hz1 .i64 .i64 _ _ nn rfl rfl rfl rfl (by rw [hz2]; omega) (by unfold maxLen; omega) (Nat.le_refl _) ?_; intro w3 hown3 hgr3; have t3 : Tch Non wr w3 := (Tch.refl _ _).of_grownBy hgr3 (by simp); have O3 := hide (OwnB.made hown3); have T3 := hide t3; clear hown3 hgr3 t3; simp only [Act.put, List.setIfInBounds_toArray, List.set_cons_zero, List.set_cons_succ]) | fail)
  rename_i K1 h1 K2 h2
  refine loop43 _ _ _ _ _ _ _ _ _ _ _ _ _ _ _ _ _ _ _ _ _ _ _ _ _ _ _ _ _ _ _ _ _ _ _ _ _ _ _ _ _ _ _ _ _ _ _ _ _ _ _ _ _ _ _ _ _ _ _ _ _ _ _ _ _ _ _ _ _ _ _ _ _ _ _ _ _ _ _ _ _ _ _ _ _ _ _ _ _ _ _ _ _ _ _ _ _ _ _ _ _ _ _ _ _ _ _ _ _ _ _ _ _ _ _ _ _ _ _ _ _ _ _ _ _ _ _ _ _ _ _ _ _ _ _ _ _ _ _ _ _ _ _ _ _ _ _ _ _ _ _ _ _ _ _ _ _ _ _ _ _ _ _ _ _ _ _ _ _ _ _ _ _ _ _ _ _ _ _ _ _ _ _ _ _ _ _ _ _ _ _ _ _ _ _ _ _ _ _ _ _ _ _ _ _ _ _ _ _ _ _ _ _ _ _ _ _ _ _ _ _ _ _ _ _ _ _ _ _ _ _ _ _ _ _ _ _ _ _ _ _ _ _ _ _ _ _ _ _ _ _ _ _ _ _ _ _ _ _ _ _ _ _ _ _ _ _ _ _ _ _ _ _ _ _ _ _ _ _ _ _ _ _ _ _ _ _ _ _ _ _ _ _ _ _ _ _ _ _ _ _ _ _ _ _ _ _ _ _ _ _ _ _ _ _ _ _ _ _ _ _ _ _ _ _ _ _ _ _ _ _ _ _ _ _ _ _ _ _ _ _ _ _ _ _ _ _ _ _ _ _ _ _ _ _ _ _ _ _ _ _ _ _ _ _ _ _ _ _ _ _ _ _ _ _ _ _ _ _ _ _ _ _ _ _ _ _ _ _ _ _ _ _ _ _ _ _ _ _ _ _ _ _ _ _ _ _ _ _ _ _ _ _ _ _ _ _ _ _ _ _ _ _ _ _ _ _ _ _ _ _ _ _ _ _ _ _ _ _ _ _ _ _ _ wr w3 nn wr.heap.size hnn (Nat.le_refl _) O3.out T3.out K1 K2 _ h2 ?_
  intro y43_25 y43_200 y43_201 y43_202 y43_203 y43_204 y43_205 y43_206 y43_207 y43_208 wr4 o4 t4
  have O4 := hide o4
  have T4 := hide t4
  have T5 := hide (T2.out.also t4)
  clear o4 t4 O3 T3
  refine h1 _ _ ?_
  clear h1 h2 K1 K2
  generalize wr.heap.size = gop at *
  go_upto_region 48 with fail
  rename_i K1 h1
  exact segX _ _ _ _ _ _ _ _ _ _ _ _ _ _ _ _ _ _ _ _ _ _ _ _ _ _ _ _ _ _ _ _ _ _ _ _ _ _ _ _ _ _ _ _ _ _ _ _ _ _ _ _ _ _ _ _ _ _ _ _ _ _ _ _ _ _ _ _ _ _ _ _ _ _ _ _ _ _ _ _ _ _ _ _ _ _ _ _ _ _ _ _ _ _ _ _ _ _ _ _ _ _ _ _ _ _ _ _ _ _ _ _ _ _ _ _ _ _ _ _ _ _ _ _ _ _ _ _ _ _ _ _ _ _ _ _ _ _ _ _ _ _ _ _ _ _ _ _ _ _ _ _ _ _ _ _ _ _ _ _ _ _ _ _ _ _ _ _ _ _ _ _ _ _ _ _ _ _ _ _ _ _ _ _ _ _ _ _ _ _ _ _ _ _ _ _ _ _ _ _ _ _ _ _ _ _ _ _ _ _ _ _ _ _ _ _ _ _ _ _ _ _ _ _ _ _ _ _ _ _ _ _ _ _ _ _ _ _ _ _ _ _ _ _ _ _ _ _ _ _ _ _ _ _ _ _ _ _ _ _ _ _ _ _ _ _ _ _ _ _ _ _ _ _ _ _ _ _ _ _ _ _ _ _ _ _ _ _ _ _ _ _ _ _ _ _ _ _ _ _ _ _ _ _ _ _ _ _ _ _ _ _ _ _ _ _ _ _ _ _ _ _ _ _ _ _ _ _ _ _ _ _ _ _ _ _ _ _ _ _ _ _ _ _ _ _ _ _ _ _ _ _ _ _ _ _ _ _ _ _ _ _ _ _ _ _ _ _ _ _ _ _ _ _ _ _ _ _ _ _ _ _ _ _ _ _ _ _ _ _ _ _ _ _ _ _ _ _ _ _ _ _ _ _ _ _ _ _ _ _ _ _ _ _ _ _ _ _ _ _ _ _ _ _ _ _ _ _ _ _ _ _ _ _ _ _ _ w0 wr4 nn m n2 gp gop gst ghd at1 ah a2 ct ch c2 A0 kb ((List.range nn).map (fun u => pa.getD u false)) st hd (Kn.Src.keep HT.out T5.out) (Kn.Src.keep HH.out T5.out) hm (HS.out.keep T5.out) (HD.out.keep T5.out) HC.out ((OwnB.pb O2.out).keep T4.out) (OwnB.pb O4.out) (HKS.out.keep T5.out) HA.out hnn hn2 HKB.out hm2 (T0.out.also T5.out) K1 h1
end Go.Proofs.Ybulkaxc.Law
