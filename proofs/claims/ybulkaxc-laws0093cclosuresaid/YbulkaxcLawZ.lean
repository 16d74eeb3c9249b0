/-
  LawS0093CClosure (4), the walk's last segment: Warshall's closure, and the answer against it.
-/
import Derived.Test.YbulkaxcLoop75
import Derived.Test.YbulkaxcLoop80
import Derived.Test.YbulkaxcLoop85
import Derived.Test.YbulkaxcLoop96
import Derived.Test.YbulkaxcLoop108
namespace Go.Proofs.Ybulkaxc.Law
open Go Go.RowKit Go.Proofs.Ybulkaxc.M2 Go.Proofs.Ybulkaxc.Cm Go.Proofs.Ybulkaxc.Kn Go.Proofs.Ybulkaxc.Hb Go.Proofs.Ybulkaxc.Pl2 Go.Proofs.Ybulkaxc.Tj Go.Proofs.Ybulkaxc.Hc Go.Proofs.Ybulkaxc.Mx Go.Proofs.Ybulkaxc.Cut2
set_option linter.unusedVariables false
set_option linter.unusedSimpArgs false

set_option maxRecDepth 100000 in
set_option maxHeartbeats 8000000 in
theorem segZ (d0 d1 d2 d3 d4 d5 d6 d7 d8 d9 d13 d14 d15 d16 d17 d18 d19 d20 d21 d23 d24 d25 d26 d28 d29 d30 d31 d32 d33 d34 d35 d36 d37 d39 d40 d41 d42 d43 d44 d45 d46 d47 d48 d49 d50 d51 d52 d53 d54 d55 d56 d57 d58 d59 d60 d61 d62 d63 d64 d65 d66 d67 d68 d69 d70 d71 d72 d73 d74 d75 d76 d77 d78 d79 d80 d81 d82 d83 d84 d85 d86 d87 d88 d89 d90 d91 d92 d93 d94 d95 d96 d97 d98 d99 d100 d101 d102 d103 d104 d105 d106 d107 d108 d109 d110 d111 d112 d113 d114 d115 d116 d117 d118 d119 d120 d121 d122 d123 d124 d125 d126 d127 d128 d129 d130 d131 d132 d133 d134 d135 d136 d137 d138 d139 d140 d141 d142 d143 d144 d145 d146 d147 d148 d149 d150 d151 d152 d153 d154 d155 d156 d157 d158 d159 d160 d161 d162 d163 d164 d165 d166 d167 d168 d169 d170 d171 d172 d173 d174 d175 d176 d177 d178 d179 d180 d181 d182 d183 d184 d185 d186 d187 d188 d189 d190 d191 d192 d193 d194 d195 d196 d197 d198 d199 d200 d201 d202 d203 d204 d205 d206 d207 d208 d209 d210 d211 d212 d213 d214 d215 d216 d217 d218 d219 d220 d221 d222 d223 d224 d225 d226 d227 d228 d229 d230 d231 d232 d233 d234 d235 d236 d237 d238 d239 d240 d241 d242 d243 d244 d245 d246 d247 d248 d249 d250 d251 d252 d253 d254 d255 d256 d257 d258 d259 d260 d261 d262 d263 d264 d265 d266 d267 d268 d269 d270 d271 d272 d273 d274 d275 d276 d277 d278 d279 d280 d281 d282 d283 d284 d285 d286 d287 d288 d289 d290 d291 d292 d293 d294 d295 d296 d297 d298 d299 d300 d301 d302 d303 d304 d305 d306 d307 d308 d309 d310 d311 d312 d313 d314 d315 d316 d317 d318 d319 d320 d321 d322 d323 d324 d325 d326 d327 d328 d329 d330 d331 d332 d333 d334 d335 d336 d337 d338 d339 d340 d341 d342 d343 d344 d345 d346 d347 d348 d349 d350 d351 d352 d353 d354 d355 d356 d357 d358 d359 d360 d361 d362 d363 d364 d365 d366 d367 d368 d369 d370 d371 d372 d373 d374 d375 d376 d377 d378 d379 d380 d381 d382 d383 d384 d385 d386 d387 d388 d389 d390 d391 d392 d393 d394 d395 d396 d397 d398 d399 d400 d401 d402 d403 d404 d405 d406 d407 d408 d409 d410 d411 d412 d413 d414 d415 d416 d417 d418 d419 d420 d421 d422 d423 d424 d425 d426 d427 d428 d429 d430 d431 d432 d433 d434 d435 d436 d437 d438 d439 d440 d441 d442 d443 d444 : Value) (w0 w : World) (nn m nh gp gc : Nat) (at1 ah aw : Option Addr) (ct ch cw : Nat) (A0 : List (Nat × Nat)) (hs : List (List Nat)) (pt cl : List Bool)
    (hT : Src .i32 w (.slice at1 m ct) (castN (A0.map Prod.fst))) (hH : Src .i32 w (.slice ah m ch) (castN (A0.map Prod.snd))) (hm : A0.length = m) (hW : Hw w aw nh hs) (hP : Pb w gp nn pt) (hC : Pb w gc nn cl)
    (hcl : ∀ u, u < nn → ∃ b : Bool, cl[u]? = some b ∧ (b = true ↔ Want (EE A0 (harcs nn hs)) nn pt u)) (hA : ∀ a b, (a, b) ∈ A0 → a < nn ∧ b < nn) (hhs : ∀ l ∈ hs, l.length ≤ 64 ∧ ∀ x ∈ l, x < nn) (hnn : nn ≤ 16) (hnh : nh ≤ 64) (hm2 : m ≤ 1000) (t0 : Tch Non w0 w)
    (K : Act → World → Prop) (hK : ∀ a w', Code.wp Yba.prog (snd ((Yba.f4.body.bind (tailAt 73)).getD .skip)) (LPost w0) a w' → K a w') :
    Code.wp Yba.prog (fst ((Yba.f4.body.bind (tailAt 73)).getD .skip)) (Exit.then K (LPost w0)) ⟨#[d0, d1, d2, d3, d4, d5, d6, d7, d8, d9, .int .i64 (nn : Int), .slice at1 m ct, .slice ah m ch, d13, d14, d15, d16, d17, d18, d19, d20, d21, .slice (some ⟨gp, 0, none⟩) nn nn, d23, d24, d25, d26, .slice aw nh cw, d28, d29, d30, d31, d32, d33, d34, d35, d36, d37, .slice (some ⟨gc, 0, none⟩) nn nn, d39, d40, d41, d42, d43, d44, d45, d46, d47, d48, d49, d50, d51, d52, d53, d54, d55, d56, d57, d58, d59, d60, d61, d62, d63, d64, d65, d66, d67, d68, d69, d70, d71, d72, d73, d74, d75, d76, d77, d78, d79, d80, d81, d82, d83, d84, d85, d86, d87, d88, d89, d90, d91, d92, d93, d94, d95, d96, d97, d98, d99, d100, d101, d102, d103, d104, d105, d106, d107, d108, d109, d110, d111, d112, d113, d114, d115, d116, d117, d118, d119, d120, d121, d122, d123, d124, d125, d126, d127, d128, d129, d130, d131, d132, d133, d134, d135, d136, d137, d138, d139, d140, d141, d142, d143, d144, d145, d146, d147, d148, d149, d150, d151, d152, d153, d154, d155, d156, d157, d158, d159, d160, d161, d162, d163, d164, d165, d166, d167, d168, d169, d170, d171, d172, d173, d174, d175, d176, d177, d178, d179, d180, d181, d182, d183, d184, d185, d186, d187, d188, d189, d190, d191, d192, d193, d194, d195, d196, d197, d198, d199, d200, d201, d202, d203, d204, d205, d206, d207, d208, d209, d210, d211, d212, d213, d214, d215, d216, d217, d218, d219, d220, d221, d222, d223, d224, d225, d226, d227, d228, d229, d230, d231, d232, d233, d234, d235, d236, d237, d238, d239, d240, d241, d242, d243, d244, d245, d246, d247, d248, d249, d250, d251, d252, d253, d254, d255, d256, d257, d258, d259, d260, d261, d262, d263, d264, d265, d266, d267, d268, d269, d270, d271, d272, d273, d274, d275, d276, d277, d278, d279, d280, d281, d282, d283, d284, d285, d286, d287, d288, d289, d290, d291, d292, d293, d294, d295, d296, d297, d298, d299, d300, d301, d302, d303, d304, d305, d306, d307, d308, d309, d310, d311, d312, d313, d314, d315, d316, d317, d318, d319, d320, d321, d322, d323, d324, d325, d326, d327, d328, d329, d330, d331, d332, d333, d334, d335, d336, d337, d338, d339, d340, d341, d342, d343, d344, d345, d346, d347, d348, d349, d350, d351, d352, d353, d354, d355, d356, d357, d358, d359, d360, d361, d362, d363, d364, d365, d366, d367, d368, d369, d370, d371, d372, d373, d374, d375, d376, d377, d378, d379, d380, d381, d382, d383, d384, d385, d386, d387, d388, d389, d390, d391, d392, d393, d394, d395, d396, d397, d398, d399, d400, d401, d402, d403, d404, d405, d406, d407, d408, d409, d410, d411, d412, d413, d414, d415, d416, d417, d418, d419, d420, d421, d422, d423, d424, d425, d426, d427, d428, d429, d430, d431, d432, d433, d434, d435, d436, d437, d438, d439, d440, d441, d442, d443, d444], []⟩ w := by
  conv => arg 2; whnf
  conv at hK => enter [a, w', 1, 2]; whnf
  have HT := hide hT
  have HH := hide hH
  have HW := hide hW
  have HP := hide hP
  have HC := hide hC
  have HCL := hide hcl
  have HA := hide hA
  have HHS := hide hhs
  have T0 := hide t0
  clear hT hH hW hP hC hcl hA hhs t0
  obtain ⟨i0, hi0, hz0, hz1, hz2⟩ := info_parts info4
  obtain ⟨i1, hi1, hy0, hy1, hy2⟩ := info_parts info44
  go_upto_region 74 with fail
  obtain ⟨N, hN⟩ : ∃ N, N = nn + nh := ⟨_, rfl⟩
  have eN : (nn : Int) + (nh : Int) = (N : Int) := by omega
  rw [eN]
  have hNn : nn ≤ N := by omega
  have hN80 : N ≤ 80 := by omega
  have HN := hide hN
  clear eN hN
  go_upto_region 75 with (first
    | (refine wpList_make_full _ rfl (.tmp 290) (.tmp 290) 86 rfl w.heap.size 44 i1 (.slice none 0 0) 1 Yba.underlying86 hi1 hy0 hy1 .i64 .i64 _ _ N rfl rfl rfl rfl (by rw [hy2]; omega) (by unfold maxLen; omega) (Nat.le_refl _) ?_; intro w1 hown1 hgr1; have t1 : Tch Non w w1 := (Tch.refl _ _).of_grownBy hgr1 (by simp); have O1 := hide hown1; have T1 := hide t1; clear hown1 hgr1 t1; simp only [Act.put, List.setIfInBounds_toArray, List.set_cons_zero, List.set_cons_succ]) | fail)
  have HB0 := hide (show Mb w w1 w.heap.size N 0 (fun _ => 0) (fun _ _ => false) from by
    refine ⟨?_, fun i hi => by omega, fun i j hi => by omega, fun i hi => by omega, ⟨Nat.le_refl _, fun i hi => by omega⟩, T1.out⟩
    rcases O1.out.2 with ⟨e, _⟩ | ⟨g, cap, cur, e, _, hg, h1, h2, h3, h4⟩
    · cases e
    · injection e with e1 _ e3
      injection e1 with e1
      injection e1 with e1
      subst e1
      subst e3
      unfold Blk
      rw [hg]
      have : cur.toList = (List.range N).map (fun i => if i < 0 then Value.slice (some ⟨0, 0, none⟩) N N else .slice none 0 0) := by
        rw [List.take_of_length_le (by simp [h3])] at h4
        rw [h4, Nat.mul_one]
        have : (Value.slice none 0 0).cells = #[.slice none 0 0] := rfl
        rw [this, toList_madeCells_one]
        apply List.ext_getElem?
        intro i
        by_cases hi : i < N
        · simp [hi]
        · rw [List.getElem?_eq_none (by simp; omega), List.getElem?_eq_none (by simp; omega)]
      rw [← this])
  clear O1 T1
  generalize hgR : w.heap.size = gR at HB0 ⊢
  rename_i K1 h1 K2 h2
  refine loop75 _ _ _ _ _ _ _ _ _ _ _ _ _ _ _ _ _ _ _ _ _ _ _ _ _ _ _ _ _ _ _ _ _ _ _ _ _ _ _ _ _ _ _ _ _ _ _ _ _ _ _ _ _ _ _ _ _ _ _ _ _ _ _ _ _ _ _ _ _ _ _ _ _ _ _ _ _ _ _ _ _ _ _ _ _ _ _ _ _ _ _ _ _ _ _ _ _ _ _ _ _ _ _ _ _ _ _ _ _ _ _ _ _ _ _ _ _ _ _ _ _ _ _ _ _ _ _ _ _ _ _ _ _ _ _ _ _ _ _ _ _ _ _ _ _ _ _ _ _ _ _ _ _ _ _ _ _ _ _ _ _ _ _ _ _ _ _ _ _ _ _ _ _ _ _ _ _ _ _ _ _ _ _ _ _ _ _ _ _ _ _ _ _ _ _ _ _ _ _ _ _ _ _ _ _ _ _ _ _ _ _ _ _ _ _ _ _ _ _ _ _ _ _ _ _ _ _ _ _ _ _ _ _ _ _ _ _ _ _ _ _ _ _ _ _ _ _ _ _ _ _ _ _ _ _ _ _ _ _ _ _ _ _ _ _ _ _ _ _ _ _ _ _ _ _ _ _ _ _ _ _ _ _ _ _ _ _ _ _ _ _ _ _ _ _ _ _ _ _ _ _ _ _ _ _ _ _ _ _ _ _ _ _ _ _ _ _ _ _ _ _ _ _ _ _ _ _ _ _ _ _ _ _ _ _ _ _ _ _ _ _ _ _ _ _ _ _ _ _ _ _ _ _ _ _ _ _ _ _ _ _ _ _ _ _ _ _ _ _ _ _ _ _ _ _ _ _ _ _ _ _ _ _ _ _ _ _ _ _ _ _ _ _ _ _ _ _ _ _ _ _ _ _ _ _ _ _ _ _ _ _ _ _ _ _ _ _ _ _ _ _ _ _ _ _ _ _ _ _ _ _ _ _ _ _ _ _ _ _ _ _ _ _ w w1 N gR (fun _ => 0) HB0.out hN80 K1 K2 _ h2 ?_
  intro y75_41 y75_292 y75_293 y75_294 y75_295 y75_296 y75_297 y75_298 y75_299 y75_300 y75_301 y75_302 wr rb hmb
  have HQ0 := hide (show Mq w wr gR N rb (fun a b => (a, b) ∈ A0.take 0) from ⟨_, hmb, fun a b _ _ => by simp⟩)
  clear hmb HB0
  refine h1 _ _ ?_
  clear h1 h2 K1 K2
  go_upto_region 80 with fail
  rename_i K1 h1 K2 h2
  refine loop80 _ _ _ _ _ _ _ _ _ _ _ _ _ _ _ _ _ _ _ _ _ _ _ _ _ _ _ _ _ _ _ _ _ _ _ _ _ _ _ _ _ _ _ _ _ _ _ _ _ _ _ _ _ _ _ _ _ _ _ _ _ _ _ _ _ _ _ _ _ _ _ _ _ _ _ _ _ _ _ _ _ _ _ _ _ _ _ _ _ _ _ _ _ _ _ _ _ _ _ _ _ _ _ _ _ _ _ _ _ _ _ _ _ _ _ _ _ _ _ _ _ _ _ _ _ _ _ _ _ _ _ _ _ _ _ _ _ _ _ _ _ _ _ _ _ _ _ _ _ _ _ _ _ _ _ _ _ _ _ _ _ _ _ _ _ _ _ _ _ _ _ _ _ _ _ _ _ _ _ _ _ _ _ _ _ _ _ _ _ _ _ _ _ _ _ _ _ _ _ _ _ _ _ _ _ _ _ _ _ _ _ _ _ _ _ _ _ _ _ _ _ _ _ _ _ _ _ _ _ _ _ _ _ _ _ _ _ _ _ _ _ _ _ _ _ _ _ _ _ _ _ _ _ _ _ _ _ _ _ _ _ _ _ _ _ _ _ _ _ _ _ _ _ _ _ _ _ _ _ _ _ _ _ _ _ _ _ _ _ _ _ _ _ _ _ _ _ _ _ _ _ _ _ _ _ _ _ _ _ _ _ _ _ _ _ _ _ _ _ _ _ _ _ _ _ _ _ _ _ _ _ _ _ _ _ _ _ _ _ _ _ _ _ _ _ _ _ _ _ _ _ _ _ _ _ _ _ _ _ _ _ _ _ _ _ _ _ _ _ _ _ _ _ _ _ _ _ _ _ _ _ _ _ _ _ _ _ _ _ _ _ _ _ _ _ _ _ _ _ _ _ _ _ _ _ _ _ _ _ _ _ _ _ _ _ _ _ _ _ _ _ _ _ _ _ _ _ _ _ _ _ _ _ _ _ _ _ _ _ _ _ _ w wr nn N gR m rb at1 ah ct ch A0 HT.out HH.out hm hm2 HA.out hNn hN80 HQ0.out K1 K2 _ h2 ?_
  intro y80_42 y80_43 y80_303 y80_304 y80_305 y80_306 y80_307 y80_308 y80_309 y80_310 y80_311 y80_312 y80_313 y80_314 y80_315 y80_316 y80_317 y80_318 y80_319 wr2 hq2
  have HQ2 := hide hq2
  clear hq2 HQ0
  refine h1 _ _ ?_
  clear h1 h2 K1 K2
  go_upto_region 85 with fail
  rename_i K1 h1 K2 h2
  refine loop85 _ _ _ _ _ _ _ _ _ _ _ _ _ _ _ _ _ _ _ _ _ _ _ _ _ _ _ _ _ _ _ _ _ _ _ _ _ _ _ _ _ _ _ _ _ _ _ _ _ _ _ _ _ _ _ _ _ _ _ _ _ _ _ _ _ _ _ _ _ _ _ _ _ _ _ _ _ _ _ _ _ _ _ _ _ _ _ _ _ _ _ _ _ _ _ _ _ _ _ _ _ _ _ _ _ _ _ _ _ _ _ _ _ _ _ _ _ _ _ _ _ _ _ _ _ _ _ _ _ _ _ _ _ _ _ _ _ _ _ _ _ _ _ _ _ _ _ _ _ _ _ _ _ _ _ _ _ _ _ _ _ _ _ _ _ _ _ _ _ _ _ _ _ _ _ _ _ _ _ _ _ _ _ _ _ _ _ _ _ _ _ _ _ _ _ _ _ _ _ _ _ _ _ _ _ _ _ _ _ _ _ _ _ _ _ _ _ _ _ _ _ _ _ _ _ _ _ _ _ _ _ _ _ _ _ _ _ _ _ _ _ _ _ _ _ _ _ _ _ _ _ _ _ _ _ _ _ _ _ _ _ _ _ _ _ _ _ _ _ _ _ _ _ _ _ _ _ _ _ _ _ _ _ _ _ _ _ _ _ _ _ _ _ _ _ _ _ _ _ _ _ _ _ _ _ _ _ _ _ _ _ _ _ _ _ _ _ _ _ _ _ _ _ _ _ _ _ _ _ _ _ _ _ _ _ _ _ _ _ _ _ _ _ _ _ _ _ _ _ _ _ _ _ _ _ _ _ _ _ _ _ _ _ _ _ _ _ _ _ _ _ _ _ _ _ _ _ _ _ _ _ _ _ _ _ _ _ _ _ _ _ _ _ _ _ _ _ _ _ _ _ _ _ _ _ _ _ _ _ _ _ _ _ _ _ _ _ _ _ _ _ _ _ _ _ _ _ _ _ _ _ _ _ _ _ _ _ _ _ _ _ _ w wr2 nn nh N gR rb aw cw A0 hs HW.out HHS.out HN.out hnn hnh HQ2.out K1 K2 _ h2 ?_
  intro y85_44 y85_45 y85_46 y85_48 y85_320 y85_321 y85_322 y85_323 y85_324 y85_325 y85_326 y85_327 y85_328 y85_329 y85_330 y85_331 y85_332 y85_333 y85_334 y85_335 y85_336 y85_337 y85_338 y85_339 y85_340 y85_341 y85_342 y85_343 y85_344 y85_345 y85_346 y85_347 y85_348 y85_349 wr3 hq3
  have HQ3 := hide hq3
  clear hq3 HQ2
  refine h1 _ _ ?_
  clear h1 h2 K1 K2
  have HEL := hide (show ∀ a b, EE A0 (harcs nn hs) a b → a < N ∧ b < N from by
    intro a b h
    have h1 := EE_lt HA.out (fun l hl x hx => (HHS.out l hl).2 x hx) a b h
    rw [HW.out.len] at h1
    rw [HN.out]
    exact h1)
  go_upto_region 96 with fail
  rename_i K1 h1 K2 h2
  refine loop96 _ _ _ _ _ _ _ _ _ _ _ _ _ _ _ _ _ _ _ _ _ _ _ _ _ _ _ _ _ _ _ _ _ _ _ _ _ _ _ _ _ _ _ _ _ _ _ _ _ _ _ _ _ _ _ _ _ _ _ _ _ _ _ _ _ _ _ _ _ _ _ _ _ _ _ _ _ _ _ _ _ _ _ _ _ _ _ _ _ _ _ _ _ _ _ _ _ _ _ _ _ _ _ _ _ _ _ _ _ _ _ _ _ _ _ _ _ _ _ _ _ _ _ _ _ _ _ _ _ _ _ _ _ _ _ _ _ _ _ _ _ _ _ _ _ _ _ _ _ _ _ _ _ _ _ _ _ _ _ _ _ _ _ _ _ _ _ _ _ _ _ _ _ _ _ _ _ _ _ _ _ _ _ _ _ _ _ _ _ _ _ _ _ _ _ _ _ _ _ _ _ _ _ _ _ _ _ _ _ _ _ _ _ _ _ _ _ _ _ _ _ _ _ _ _ _ _ _ _ _ _ _ _ _ _ _ _ _ _ _ _ _ _ _ _ _ _ _ _ _ _ _ _ _ _ _ _ _ _ _ _ _ _ _ _ _ _ _ _ _ _ _ _ _ _ _ _ _ _ _ _ _ _ _ _ _ _ _ _ _ _ _ _ _ _ _ _ _ _ _ _ _ _ _ _ _ _ _ _ _ _ _ _ _ _ _ _ _ _ _ _ _ _ _ _ _ _ _ _ _ _ _ _ _ _ _ _ _ _ _ _ _ _ _ _ _ _ _ _ _ _ _ _ _ _ _ _ _ _ _ _ _ _ _ _ _ _ _ _ _ _ _ _ _ _ _ _ _ _ _ _ _ _ _ _ _ _ _ _ _ _ _ _ _ _ _ _ _ _ _ _ _ _ _ _ _ _ _ _ _ _ _ _ _ _ _ _ _ _ _ _ _ _ _ _ _ _ _ _ _ _ _ _ _ _ _ _ _ _ _ _ _ _ w wr3 N gR rb (EE A0 (harcs nn hs)) HEL.out hN80 HQ3.out K1 K2 _ h2 ?_
  intro y96_49 y96_50 y96_51 y96_350 y96_351 y96_352 y96_353 y96_354 y96_355 y96_356 y96_357 y96_358 y96_359 y96_360 y96_361 y96_362 y96_363 y96_364 y96_365 y96_366 y96_367 y96_368 y96_369 y96_370 y96_371 y96_372 y96_373 y96_374 y96_375 y96_376 y96_377 y96_378 y96_379 y96_380 y96_381 y96_382 y96_383 y96_384 y96_385 wr4 hq4
  have HQ4 := hide hq4
  clear hq4 HQ3
  refine h1 _ _ ?_
  clear h1 h2 K1 K2
  go_upto_region 108 with fail
  rename_i K1 h1 K2 h2
  refine loop108 _ _ _ _ _ _ _ _ _ _ _ _ _ _ _ _ _ _ _ _ _ _ _ _ _ _ _ _ _ _ _ _ _ _ _ _ _ _ _ _ _ _ _ _ _ _ _ _ _ _ _ _ _ _ _ _ _ _ _ _ _ _ _ _ _ _ _ _ _ _ _ _ _ _ _ _ _ _ _ _ _ _ _ _ _ _ _ _ _ _ _ _ _ _ _ _ _ _ _ _ _ _ _ _ _ _ _ _ _ _ _ _ _ _ _ _ _ _ _ _ _ _ _ _ _ _ _ _ _ _ _ _ _ _ _ _ _ _ _ _ _ _ _ _ _ _ _ _ _ _ _ _ _ _ _ _ _ _ _ _ _ _ _ _ _ _ _ _ _ _ _ _ _ _ _ _ _ _ _ _ _ _ _ _ _ _ _ _ _ _ _ _ _ _ _ _ _ _ _ _ _ _ _ _ _ _ _ _ _ _ _ _ _ _ _ _ _ _ _ _ _ _ _ _ _ _ _ _ _ _ _ _ _ _ _ _ _ _ _ _ _ _ _ _ _ _ _ _ _ _ _ _ _ _ _ _ _ _ _ _ _ _ _ _ _ _ _ _ _ _ _ _ _ _ _ _ _ _ _ _ _ _ _ _ _ _ _ _ _ _ _ _ _ _ _ _ _ _ _ _ _ _ _ _ _ _ _ _ _ _ _ _ _ _ _ _ _ _ _ _ _ _ _ _ _ _ _ _ _ _ _ _ _ _ _ _ _ _ _ _ _ _ _ _ _ _ _ _ _ _ _ _ _ _ _ _ _ _ _ _ _ _ _ _ _ _ _ _ _ _ _ _ _ _ _ _ _ _ _ _ _ _ _ _ _ _ _ _ _ _ _ _ _ _ _ _ _ _ _ _ _ _ _ _ _ _ _ _ _ _ _ _ _ _ _ _ _ _ _ _ _ _ _ _ _ _ _ _ _ _ _ _ _ _ _ _ _ _ _ _ _ w wr4 nn N gR gp gc rb (EE A0 (harcs nn hs)) pt cl HP.out HC.out HCL.out hNn hN80 HQ4.out K1 K2 _ h2 ?_
  intro y108_8 y108_52 y108_53 y108_54 y108_386 y108_387 y108_388 y108_389 y108_390 y108_391 y108_392 y108_393 y108_394 y108_395 y108_396 y108_397 y108_398 y108_399 y108_400 y108_401 y108_402 y108_403 y108_404 y108_405 y108_406 y108_407 y108_408 y108_409 y108_410 y108_411 y108_412 y108_413 y108_414 y108_415 y108_416 y108_417 y108_418 y108_419 y108_420 y108_421 y108_422 y108_423 y108_424 y108_425 y108_426 y108_427 y108_428 y108_429 y108_430 y108_431 y108_432 y108_433 y108_434 y108_435 y108_436 y108_437 y108_438 y108_439 y108_440 y108_441 y108_442 y108_443 y108_444 
  have HTT := hide (T0.out.also HQ4.out.tch)
  clear HQ4
  refine h1 _ _ ?_
  clear h1 h2 K1 K2
  go_wp2_with fail
  go_ret
  exact ⟨rfl, HTT.out.below (Nat.le_refl _) (fun x hx => hx.elim)⟩
end Go.Proofs.Ybulkaxc.Law
