/-
  LawS0093CClosure (4), the walk from the starts on: starts, heads.
-/
import Derived.Test.YbulkaxcLawW
import Derived.Test.YbulkaxcLoop18
import Derived.Test.YbulkaxcLoop23
import Derived.Test.YbulkaxcLoop30
import Derived.Test.YbulkaxcCp
namespace Go.Proofs.Ybulkaxc.Law
open Go Go.RowKit Go.Proofs.Ybulkaxc.M2 Go.Proofs.Ybulkaxc.Cm Go.Proofs.Ybulkaxc.Kn Go.Proofs.Ybulkaxc.Hb Go.Proofs.Ybulkaxc.Pl2 Go.Proofs.Ybulkaxc.Tj Go.Proofs.Ybulkaxc.Hc Go.Proofs.Ybulkaxc.Mx Go.Proofs.Ybulkaxc.Cut2
set_option linter.unusedVariables false
set_option linter.unusedSimpArgs false

set_option maxRecDepth 100000 in
set_option maxHeartbeats 8000000 in
theorem segV (d0 d1 d4 d5 d6 d7 d8 d9 d13 d14 d15 d16 d17 d18 d19 d20 d21 d22 d23 d24 d25 d26 d27 d28 d29 d30 d31 d32 d33 d34 d35 d36 d37 d38 d39 d40 d41 d42 d43 d44 d45 d46 d47 d48 d49 d50 d51 d52 d53 d54 d55 d56 d57 d58 d59 d60 d61 d62 d63 d64 d65 d66 d67 d68 d69 d70 d71 d72 d73 d74 d75 d76 d77 d78 d79 d80 d81 d82 d83 d84 d85 d86 d87 d88 d89 d90 d91 d92 d93 d94 d95 d96 d97 d98 d99 d100 d101 d102 d103 d104 d105 d106 d107 d108 d109 d110 d111 d112 d113 d114 d115 d116 d117 d118 d119 d120 d121 d122 d123 d124 d125 d126 d127 d128 d129 d130 d131 d132 d133 d134 d135 d136 d137 d138 d139 d140 d141 d142 d143 d144 d145 d146 d147 d148 d149 d150 d151 d152 d153 d154 d155 d156 d157 d158 d159 d160 d161 d162 d163 d164 d165 d166 d167 d168 d169 d170 d171 d172 d173 d174 d175 d176 d177 d178 d179 d180 d181 d182 d183 d184 d185 d186 d187 d188 d189 d190 d191 d192 d193 d194 d195 d196 d197 d198 d199 d200 d201 d202 d203 d204 d205 d206 d207 d208 d209 d210 d211 d212 d213 d214 d215 d216 d217 d218 d219 d220 d221 d222 d223 d224 d225 d226 d227 d228 d229 d230 d231 d232 d233 d234 d235 d236 d237 d238 d239 d240 d241 d242 d243 d244 d245 d246 d247 d248 d249 d250 d251 d252 d253 d254 d255 d256 d257 d258 d259 d260 d261 d262 d263 d264 d265 d266 d267 d268 d269 d270 d271 d272 d273 d274 d275 d276 d277 d278 d279 d280 d281 d282 d283 d284 d285 d286 d287 d288 d289 d290 d291 d292 d293 d294 d295 d296 d297 d298 d299 d300 d301 d302 d303 d304 d305 d306 d307 d308 d309 d310 d311 d312 d313 d314 d315 d316 d317 d318 d319 d320 d321 d322 d323 d324 d325 d326 d327 d328 d329 d330 d331 d332 d333 d334 d335 d336 d337 d338 d339 d340 d341 d342 d343 d344 d345 d346 d347 d348 d349 d350 d351 d352 d353 d354 d355 d356 d357 d358 d359 d360 d361 d362 d363 d364 d365 d366 d367 d368 d369 d370 d371 d372 d373 d374 d375 d376 d377 d378 d379 d380 d381 d382 d383 d384 d385 d386 d387 d388 d389 d390 d391 d392 d393 d394 d395 d396 d397 d398 d399 d400 d401 d402 d403 d404 d405 d406 d407 d408 d409 d410 d411 d412 d413 d414 d415 d416 d417 d418 d419 d420 d421 d422 d423 d424 d425 d426 d427 d428 d429 d430 d431 d432 d433 d434 d435 d436 d437 d438 d439 d440 d441 d442 d443 d444 : Value) (w0 w : World) (nn m n2 n3 : Nat) (at1 ah a2 a3 : Option Addr) (ct ch c2 c3 : Nat) (A0 : List (Nat × Nat)) (kb : List (List Nat)) (pa : List Bool)
    (hT : Src .i32 w (.slice at1 m ct) (castN (A0.map Prod.fst))) (hH : Src .i32 w (.slice ah m ch) (castN (A0.map Prod.snd))) (hm : A0.length = m) (hKS : Ksrc w (.slice a2 n2 c2) kb) (hB3 : Bsrc w (.slice a3 n3 c3) pa) (hA : ∀ a b, (a, b) ∈ A0 → a < nn ∧ b < nn) (hnn : nn ≤ 16) (hn2 : n2 ≤ 64) (hkb : ∀ l ∈ kb, l.length ≤ 64 ∧ ∀ y ∈ l, y ≤ 255) (hn3 : n3 ≤ 9223372036854775807) (hm2 : m ≤ 1000) (t0 : Tch Non w0 w)
    (K : Act → World → Prop) (hK : ∀ a w', Code.wp Yba.prog (snd ((Yba.f4.body.bind (tailAt 17)).getD .skip)) (LPost w0) a w' → K a w') :
    Code.wp Yba.prog (fst ((Yba.f4.body.bind (tailAt 17)).getD .skip)) (Exit.then K (LPost w0)) ⟨#[d0, d1, .slice a2 n2 c2, .slice a3 n3 c3, d4, d5, d6, d7, d8, d9, .int .i64 (nn : Int), .slice at1 m ct, .slice ah m ch, d13, d14, d15, d16, d17, d18, d19, d20, d21, d22, d23, d24, d25, d26, d27, d28, d29, d30, d31, d32, d33, d34, d35, d36, d37, d38, d39, d40, d41, d42, d43, d44, d45, d46, d47, d48, d49, d50, d51, d52, d53, d54, d55, d56, d57, d58, d59, d60, d61, d62, d63, d64, d65, d66, d67, d68, d69, d70, d71, d72, d73, d74, d75, d76, d77, d78, d79, d80, d81, d82, d83, d84, d85, d86, d87, d88, d89, d90, d91, d92, d93, d94, d95, d96, d97, d98, d99, d100, d101, d102, d103, d104, d105, d106, d107, d108, d109, d110, d111, d112, d113, d114, d115, d116, d117, d118, d119, d120, d121, d122, d123, d124, d125, d126, d127, d128, d129, d130, d131, d132, d133, d134, d135, d136, d137, d138, d139, d140, d141, d142, d143, d144, d145, d146, d147, d148, d149, d150, d151, d152, d153, d154, d155, d156, d157, d158, d159, d160, d161, d162, d163, d164, d165, d166, d167, d168, d169, d170, d171, d172, d173, d174, d175, d176, d177, d178, d179, d180, d181, d182, d183, d184, d185, d186, d187, d188, d189, d190, d191, d192, d193, d194, d195, d196, d197, d198, d199, d200, d201, d202, d203, d204, d205, d206, d207, d208, d209, d210, d211, d212, d213, d214, d215, d216, d217, d218, d219, d220, d221, d222, d223, d224, d225, d226, d227, d228, d229, d230, d231, d232, d233, d234, d235, d236, d237, d238, d239, d240, d241, d242, d243, d244, d245, d246, d247, d248, d249, d250, d251, d252, d253, d254, d255, d256, d257, d258, d259, d260, d261, d262, d263, d264, d265, d266, d267, d268, d269, d270, d271, d272, d273, d274, d275, d276, d277, d278, d279, d280, d281, d282, d283, d284, d285, d286, d287, d288, d289, d290, d291, d292, d293, d294, d295, d296, d297, d298, d299, d300, d301, d302, d303, d304, d305, d306, d307, d308, d309, d310, d311, d312, d313, d314, d315, d316, d317, d318, d319, d320, d321, d322, d323, d324, d325, d326, d327, d328, d329, d330, d331, d332, d333, d334, d335, d336, d337, d338, d339, d340, d341, d342, d343, d344, d345, d346, d347, d348, d349, d350, d351, d352, d353, d354, d355, d356, d357, d358, d359, d360, d361, d362, d363, d364, d365, d366, d367, d368, d369, d370, d371, d372, d373, d374, d375, d376, d377, d378, d379, d380, d381, d382, d383, d384, d385, d386, d387, d388, d389, d390, d391, d392, d393, d394, d395, d396, d397, d398, d399, d400, d401, d402, d403, d404, d405, d406, d407, d408, d409, d410, d411, d412, d413, d414, d415, d416, d417, d418, d419, d420, d421, d422, d423, d424, d425, d426, d427, d428, d429, d430, d431, d432, d433, d434, d435, d436, d437, d438, d439, d440, d441, d442, d443, d444], []⟩ w := by
  conv => arg 2; whnf
  conv at hK => enter [a, w', 1, 2]; whnf
  have HT := hide hT
  have HH := hide hH
  have HKS := hide hKS
  have HB3 := hide hB3
  have HA := hide hA
  have HKB := hide hkb
  have T0 := hide t0
  clear hT hH hKS hB3 hA hkb t0
  obtain ⟨i0, hi0, hz0, hz1, hz2⟩ := info_parts Cm.info21
  have hfs : (fsOf A0).length = m := by unfold fsOf; rw [List.length_map]; exact hm
  have HFS := hide hfs
  clear hfs
  go_upto_region 18 with (first
    | (refine wpList_make_full _ rfl (.tmp 111) (.tmp 111) 23 rfl w.heap.size 21 i0 (.int .i32 0) 1 Yba.underlying23 hi0 hz0 hz1 .i64 .i64 _ _ (nn + 1) rfl rfl (by omega) (by omega) (by rw [hz2]; omega) (by unfold maxLen; omega) (Nat.le_refl _) ?_; intro w1 hown1 hgr1; have t1 : Tch Non w w1 := (Tch.refl _ _).of_grownBy hgr1 (by simp); have O1 := hide (Own.made hown1); have T1 := hide t1; clear hown1 hgr1 t1; simp only [Act.put, List.setIfInBounds_toArray, List.set_cons_zero, List.set_cons_succ]) | fail)
  rename_i K1 h1 K2 h2
  refine loop18 _ _ _ _ _ _ _ _ _ _ _ _ _ _ _ _ _ _ _ _ _ _ _ _ _ _ _ _ _ _ _ _ _ _ _ _ _ _ _ _ _ _ _ _ _ _ _ _ _ _ _ _ _ _ _ _ _ _ _ _ _ _ _ _ _ _ _ _ _ _ _ _ _ _ _ _ _ _ _ _ _ _ _ _ _ _ _ _ _ _ _ _ _ _ _ _ _ _ _ _ _ _ _ _ _ _ _ _ _ _ _ _ _ _ _ _ _ _ _ _ _ _ _ _ _ _ _ _ _ _ _ _ _ _ _ _ _ _ _ _ _ _ _ _ _ _ _ _ _ _ _ _ _ _ _ _ _ _ _ _ _ _ _ _ _ _ _ _ _ _ _ _ _ _ _ _ _ _ _ _ _ _ _ _ _ _ _ _ _ _ _ _ _ _ _ _ _ _ _ _ _ _ _ _ _ _ _ _ _ _ _ _ _ _ _ _ _ _ _ _ _ _ _ _ _ _ _ _ _ _ _ _ _ _ _ _ _ _ _ _ _ _ _ _ _ _ _ _ _ _ _ _ _ _ _ _ _ _ _ _ _ _ _ _ _ _ _ _ _ _ _ _ _ _ _ _ _ _ _ _ _ _ _ _ _ _ _ _ _ _ _ _ _ _ _ _ _ _ _ _ _ _ _ _ _ _ _ _ _ _ _ _ _ _ _ _ _ _ _ _ _ _ _ _ _ _ _ _ _ _ _ _ _ _ _ _ _ _ _ _ _ _ _ _ _ _ _ _ _ _ _ _ _ _ _ _ _ _ _ _ _ _ _ _ _ _ _ _ _ _ _ _ _ _ _ _ _ _ _ _ _ _ _ _ _ _ _ _ _ _ _ _ _ _ _ _ _ _ _ _ _ _ _ _ _ _ _ _ _ _ _ _ _ _ _ _ _ _ _ _ _ _ _ _ _ _ _ _ _ _ _ _ _ _ _ _ _ _ _ _ _ _ _ w w1 nn m w.heap.size at1 ct (fsOf A0) HT.out HFS.out hm2 (fun x hx => by
    unfold fsOf at hx
    rw [List.mem_map] at hx
    obtain ⟨⟨a, b⟩, h1, rfl⟩ := hx
    exact (HA.out a b h1).1) hnn (Nat.le_refl _) O1.out T1.out K1 K2 _ h2 ?_
  intro y18_16 y18_113 y18_114 y18_115 y18_116 y18_117 y18_118 y18_119 y18_120 y18_121 y18_122 y18_123 y18_124 y18_125 y18_126 wr l o1 hc1 t1
  have O2 := hide o1
  have HC2 := hide hc1
  have T2 := hide t1
  clear o1 hc1 t1 O1 T1
  refine h1 _ _ ?_
  clear h1 h2 K1 K2
  go_upto_region 23 with fail
  rename_i K1 h1 K2 h2
  refine loop23 _ _ _ _ _ _ _ _ _ _ _ _ _ _ _ _ _ _ _ _ _ _ _ _ _ _ _ _ _ _ _ _ _ _ _ _ _ _ _ _ _ _ _ _ _ _ _ _ _ _ _ _ _ _ _ _ _ _ _ _ _ _ _ _ _ _ _ _ _ _ _ _ _ _ _ _ _ _ _ _ _ _ _ _ _ _ _ _ _ _ _ _ _ _ _ _ _ _ _ _ _ _ _ _ _ _ _ _ _ _ _ _ _ _ _ _ _ _ _ _ _ _ _ _ _ _ _ _ _ _ _ _ _ _ _ _ _ _ _ _ _ _ _ _ _ _ _ _ _ _ _ _ _ _ _ _ _ _ _ _ _ _ _ _ _ _ _ _ _ _ _ _ _ _ _ _ _ _ _ _ _ _ _ _ _ _ _ _ _ _ _ _ _ _ _ _ _ _ _ _ _ _ _ _ _ _ _ _ _ _ _ _ _ _ _ _ _ _ _ _ _ _ _ _ _ _ _ _ _ _ _ _ _ _ _ _ _ _ _ _ _ _ _ _ _ _ _ _ _ _ _ _ _ _ _ _ _ _ _ _ _ _ _ _ _ _ _ _ _ _ _ _ _ _ _ _ _ _ _ _ _ _ _ _ _ _ _ _ _ _ _ _ _ _ _ _ _ _ _ _ _ _ _ _ _ _ _ _ _ _ _ _ _ _ _ _ _ _ _ _ _ _ _ _ _ _ _ _ _ _ _ _ _ _ _ _ _ _ _ _ _ _ _ _ _ _ _ _ _ _ _ _ _ _ _ _ _ _ _ _ _ _ _ _ _ _ _ _ _ _ _ _ _ _ _ _ _ _ _ _ _ _ _ _ _ _ _ _ _ _ _ _ _ _ _ _ _ _ _ _ _ _ _ _ _ _ _ _ _ _ _ _ _ _ _ _ _ _ _ _ _ _ _ _ _ _ _ _ _ _ _ _ _ _ _ _ _ _ _ _ _ _ _ w wr nn w.heap.size (fsOf A0) l (by rw [HFS.out]; exact hm2) hnn (Nat.le_refl _) O2.out HC2.out T2.out K1 K2 _ h2 ?_
  intro y23_17 y23_127 y23_128 y23_129 y23_130 y23_131 y23_132 y23_133 y23_134 y23_135 y23_136 y23_137 y23_138 y23_139 y23_140 y23_141 y23_142 wr2 st o2 hp2 t2
  have O3 := hide o2
  have HP3 := hide hp2
  have T3 := hide t2
  clear o2 hp2 t2 O2 HC2 T2
  refine h1 _ _ ?_
  clear h1 h2 K1 K2
  generalize hgst : w.heap.size = gst at *
  go_upto_region 28 with (first
    | (refine wpList_make_full _ rfl (.tmp 144) (.tmp 144) 23 rfl wr2.heap.size 21 i0 (.int .i32 0) 1 Yba.underlying23 hi0 hz0 hz1 .i64 .i64 _ _ m rfl rfl rfl rfl (by rw [hz2]; omega) (by unfold maxLen; omega) (Nat.le_refl _) ?_; intro w4 hown4 hgr4; have t4 : Tch Non wr2 w4 := (Tch.refl _ _).of_grownBy hgr4 (by simp); have O4 := hide (Own.made hown4); have T4 := hide t4; clear hown4 hgr4 t4; simp only [Act.put, List.setIfInBounds_toArray, List.set_cons_zero, List.set_cons_succ]) | fail)
  go_upto_region 29 with (first
    | (refine wpList_make_full _ rfl (.tmp 146) (.tmp 146) 23 rfl w4.heap.size 21 i0 (.int .i32 0) 1 Yba.underlying23 hi0 hz0 hz1 .i64 .i64 _ _ nn rfl rfl rfl rfl (by rw [hz2]; omega) (by unfold maxLen; omega) (Nat.le_refl _) ?_; intro w5 hown5 hgr5; have t5 : Tch Non w4 w5 := (Tch.refl _ _).of_grownBy hgr5 (by simp); have O5 := hide (Own.made hown5); have T5 := hide t5; clear hown5 hgr5 t5; simp only [Act.put, List.setIfInBounds_toArray, List.set_cons_zero, List.set_cons_succ]) | fail)
  have hlen : (st.take nn).length = nn := by rw [List.length_take, HP3.out.len]; omega
  have hsrc : ∀ (j : Nat) (x : Int), (st.take nn)[j]? = some x → w5.cell? ((⟨gst, 0, none⟩ : Addr).add j) = some (.int .i32 x) := by
    intro j x hx
    rw [Go.WideShapes.add_plain, Nat.zero_add]
    rw [List.getElem?_take] at hx
    split at hx
    · exact ((O3.out.keep T4.out).keep T5.out).at hx
    · cases hx
  obtain ⟨w6, hr6, o6, t6⟩ := run_copy (P := Yba.prog) w5 23 3 Yba.underlying23 size21 (cs := nn + 1) (m := nn) O5.out hlen (Nat.le_refl _) hsrc
  have hne : w4.heap.size ≠ wr2.heap.size := by
    have := (O4.out.lt (g := wr2.heap.size) rfl).2
    omega
  have HO6 := hide o6
  have HT6 := hide t6
  clear o6 t6 hsrc hlen
  have e1 : (nn : Int) ≤ (nn : Int) + 1 := by omega
  go_upto_region 30 with fail
  clear hr6
  have hg4 := (O4.out.lt (g := wr2.heap.size) rfl).2
  have T6 := hide ((T4.out.also T5.out).trans HT6.out (fun x hx => .inr (by rw [hx]; omega)))
  have O46 := hide ((O4.out.keep T5.out).touch HT6.out (fun g hg e => by have e1 : wr2.heap.size = g := Option.some.inj hg; have e2 : g = w4.heap.size := e; omega))
  rename_i K1 h1 K2 h2
  refine loop30 _ _ _ _ _ _ _ _ _ _ _ _ _ _ _ _ _ _ _ _ _ _ _ _ _ _ _ _ _ _ _ _ _ _ _ _ _ _ _ _ _ _ _ _ _ _ _ _ _ _ _ _ _ _ _ _ _ _ _ _ _ _ _ _ _ _ _ _ _ _ _ _ _ _ _ _ _ _ _ _ _ _ _ _ _ _ _ _ _ _ _ _ _ _ _ _ _ _ _ _ _ _ _ _ _ _ _ _ _ _ _ _ _ _ _ _ _ _ _ _ _ _ _ _ _ _ _ _ _ _ _ _ _ _ _ _ _ _ _ _ _ _ _ _ _ _ _ _ _ _ _ _ _ _ _ _ _ _ _ _ _ _ _ _ _ _ _ _ _ _ _ _ _ _ _ _ _ _ _ _ _ _ _ _ _ _ _ _ _ _ _ _ _ _ _ _ _ _ _ _ _ _ _ _ _ _ _ _ _ _ _ _ _ _ _ _ _ _ _ _ _ _ _ _ _ _ _ _ _ _ _ _ _ _ _ _ _ _ _ _ _ _ _ _ _ _ _ _ _ _ _ _ _ _ _ _ _ _ _ _ _ _ _ _ _ _ _ _ _ _ _ _ _ _ _ _ _ _ _ _ _ _ _ _ _ _ _ _ _ _ _ _ _ _ _ _ _ _ _ _ _ _ _ _ _ _ _ _ _ _ _ _ _ _ _ _ _ _ _ _ _ _ _ _ _ _ _ _ _ _ _ _ _ _ _ _ _ _ _ _ _ _ _ _ _ _ _ _ _ _ _ _ _ _ _ _ _ _ _ _ _ _ _ _ _ _ _ _ _ _ _ _ _ _ _ _ _ _ _ _ _ _ _ _ _ _ _ _ _ _ _ _ _ _ _ _ _ _ _ _ _ _ _ _ _ _ _ _ _ _ _ _ _ _ _ _ _ _ _ _ _ _ _ _ _ _ _ _ _ _ _ _ _ _ _ _ _ _ _ _ _ wr2 w6 nn m wr2.heap.size w4.heap.size at1 ah ct ch A0 (st.take nn) (Kn.Src.keep HT.out T3.out) (Kn.Src.keep HH.out T3.out) hm hm2 HA.out hnn hne (Nat.le_refl _) (by omega) (HO6.out.mono (by omega)) O46.out (Fil.start HP3.out (by rw [List.length_replicate]; exact hm.symm)) T6.out K1 K2 _ h2 ?_
  intro y30_20 y30_21 y30_153 y30_154 y30_155 y30_156 y30_157 y30_158 y30_159 y30_160 y30_161 y30_162 y30_163 y30_164 y30_165 y30_166 y30_167 y30_168 y30_169 y30_170 y30_171 y30_172 y30_173 y30_174 y30_175 y30_176 wr7 fl7 hd7 o7 hf7 t7
  have O7 := hide o7
  have HF7 := hide hf7
  have T7 := hide t7
  have T70 := hide (T3.out.also t7)
  clear o7 hf7 t7 O4 O5 T4 T5 HO6 HT6 T6 O46
  refine h1 _ _ ?_
  clear h1 h2 K1 K2
  generalize wr2.heap.size = ghd at *
  go_upto_region 36 with fail
  rename_i K1 h1
  exact segW _ _ _ _ _ _ _ _ _ _ _ _ _ _ _ _ _ _ _ _ _ _ _ _ _ _ _ _ _ _ _ _ _ _ _ _ _ _ _ _ _ _ _ _ _ _ _ _ _ _ _ _ _ _ _ _ _ _ _ _ _ _ _ _ _ _ _ _ _ _ _ _ _ _ _ _ _ _ _ _ _ _ _ _ _ _ _ _ _ _ _ _ _ _ _ _ _ _ _ _ _ _ _ _ _ _ _ _ _ _ _ _ _ _ _ _ _ _ _ _ _ _ _ _ _ _ _ _ _ _ _ _ _ _ _ _ _ _ _ _ _ _ _ _ _ _ _ _ _ _ _ _ _ _ _ _ _ _ _ _ _ _ _ _ _ _ _ _ _ _ _ _ _ _ _ _ _ _ _ _ _ _ _ _ _ _ _ _ _ _ _ _ _ _ _ _ _ _ _ _ _ _ _ _ _ _ _ _ _ _ _ _ _ _ _ _ _ _ _ _ _ _ _ _ _ _ _ _ _ _ _ _ _ _ _ _ _ _ _ _ _ _ _ _ _ _ _ _ _ _ _ _ _ _ _ _ _ _ _ _ _ _ _ _ _ _ _ _ _ _ _ _ _ _ _ _ _ _ _ _ _ _ _ _ _ _ _ _ _ _ _ _ _ _ _ _ _ _ _ _ _ _ _ _ _ _ _ _ _ _ _ _ _ _ _ _ _ _ _ _ _ _ _ _ _ _ _ _ _ _ _ _ _ _ _ _ _ _ _ _ _ _ _ _ _ _ _ _ _ _ _ _ _ _ _ _ _ _ _ _ _ _ _ _ _ _ _ _ _ _ _ _ _ _ _ _ _ _ _ _ _ _ _ _ _ _ _ _ _ _ _ _ _ _ _ _ _ _ _ _ _ _ _ _ _ _ _ _ _ _ _ _ _ _ _ _ _ _ _ _ _ _ _ _ _ _ _ _ _ _ _ _ _ _ _ _ _ _ w0 wr7 nn m n2 n3 gst ghd at1 ah a2 a3 ct ch c2 c3 A0 kb pa st hd7 (Kn.Src.keep HT.out T70.out) (Kn.Src.keep HH.out T70.out) hm ((O3.out.keep T7.out).mono (Nat.zero_le _)) (O7.out.mono (Nat.zero_le _)) (by
    have h := HF7.out
    rw [← hm] at h
    exact h.csr HP3.out) (HKS.out.keep T70.out) (HB3.out.keep T70.out) HA.out hnn hn2 HKB.out hn3 hm2 (T0.out.also T70.out) K1 h1
end Go.Proofs.Ybulkaxc.Law
