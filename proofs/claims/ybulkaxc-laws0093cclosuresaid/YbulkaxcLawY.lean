/-
  LawS0093CClosure (4), the walk from the structures on.
-/
import Derived.Test.YbulkaxcLawZ
import Derived.Test.YbulkaxcMk
namespace Go.Proofs.Ybulkaxc.Law
open Go Go.RowKit Go.Proofs.Ybulkaxc.M2 Go.Proofs.Ybulkaxc.Cm Go.Proofs.Ybulkaxc.Kn Go.Proofs.Ybulkaxc.Hb Go.Proofs.Ybulkaxc.Pl2 Go.Proofs.Ybulkaxc.Tj Go.Proofs.Ybulkaxc.Hc Go.Proofs.Ybulkaxc.Mx Go.Proofs.Ybulkaxc.Cut2
set_option linter.unusedVariables false
set_option linter.unusedSimpArgs false

/-- The keys' infos: their writers. -/
structure Kw (w : World) (ak : Option Addr) (nk nn : Nat) (ks : List (List Nat)) : Prop where
  len : ks.length = nk
  key : ∀ k ws, ks[k]? = some ws → ∃ gk a c, ak = some ⟨gk, 0, none⟩ ∧ w.cell? ⟨gk, k * 4 + 1, none⟩ = some (.slice a ws.length c) ∧ Src .i32 w (.slice a ws.length c) (castN ws)
  rng : ∀ ws ∈ ks, ws.length ≤ 64 ∧ ∀ x ∈ ws, x < nn
theorem Kw.gm {w w' : World} {gg nk ck nn : Nat} {ak : Option Addr} {ks : List (List Nat)} (h : Kw w ak nk nn ks) (t : Tch Non w w') (h6 : w'.cell? ⟨gg, 6, none⟩ = some (.slice ak nk ck)) (h1 : w'.cell? ⟨gg, 1, none⟩ = some (.int .u8 0)) : Gm w' gg ak nk ck nn ks :=
  ⟨h6, h1, h.len, fun k ws hk => by
    obtain ⟨gk, a, c, e1, e2, e3⟩ := h.key k ws hk
    exact ⟨gk, a, c, e1, t.cell e2 (fun h => h), Kn.Src.keep e3 t⟩, h.rng⟩

set_option maxRecDepth 100000 in
set_option maxHeartbeats 8000000 in
theorem segY (d0 d1 d2 d3 d4 d5 d6 d7 d8 d9 d13 d15 d16 d17 d19 d20 d21 d23 d25 d28 d29 d30 d31 d32 d33 d34 d35 d36 d37 d38 d39 d40 d41 d42 d43 d44 d45 d46 d47 d48 d49 d50 d51 d52 d53 d54 d55 d56 d57 d58 d59 d60 d61 d62 d63 d64 d65 d66 d67 d68 d69 d70 d71 d72 d73 d74 d75 d76 d77 d78 d79 d80 d81 d82 d83 d84 d85 d86 d87 d88 d89 d90 d91 d92 d93 d94 d95 d96 d97 d98 d99 d100 d101 d102 d103 d104 d105 d106 d107 d108 d109 d110 d111 d112 d113 d114 d115 d116 d117 d118 d119 d120 d121 d122 d123 d124 d125 d126 d127 d128 d129 d130 d131 d132 d133 d134 d135 d136 d137 d138 d139 d140 d141 d142 d143 d144 d145 d146 d147 d148 d149 d150 d151 d152 d153 d154 d155 d156 d157 d158 d159 d160 d161 d162 d163 d164 d165 d166 d167 d168 d169 d170 d171 d172 d173 d174 d175 d176 d177 d178 d179 d180 d181 d182 d183 d184 d185 d186 d187 d188 d189 d190 d191 d192 d193 d194 d195 d196 d197 d198 d199 d200 d201 d202 d203 d204 d205 d206 d207 d208 d209 d210 d211 d212 d213 d214 d215 d216 d217 d218 d219 d220 d221 d222 d223 d224 d225 d226 d227 d228 d229 d230 d231 d232 d233 d234 d235 d236 d237 d238 d239 d240 d241 d242 d243 d244 d245 d246 d247 d248 d249 d250 d251 d252 d253 d254 d255 d256 d257 d258 d259 d260 d261 d262 d263 d264 d265 d266 d267 d268 d269 d270 d271 d272 d273 d274 d275 d276 d277 d278 d279 d280 d281 d282 d283 d284 d285 d286 d287 d288 d289 d290 d291 d292 d293 d294 d295 d296 d297 d298 d299 d300 d301 d302 d303 d304 d305 d306 d307 d308 d309 d310 d311 d312 d313 d314 d315 d316 d317 d318 d319 d320 d321 d322 d323 d324 d325 d326 d327 d328 d329 d330 d331 d332 d333 d334 d335 d336 d337 d338 d339 d340 d341 d342 d343 d344 d345 d346 d347 d348 d349 d350 d351 d352 d353 d354 d355 d356 d357 d358 d359 d360 d361 d362 d363 d364 d365 d366 d367 d368 d369 d370 d371 d372 d373 d374 d375 d376 d377 d378 d379 d380 d381 d382 d383 d384 d385 d386 d387 d388 d389 d390 d391 d392 d393 d394 d395 d396 d397 d398 d399 d400 d401 d402 d403 d404 d405 d406 d407 d408 d409 d410 d411 d412 d413 d414 d415 d416 d417 d418 d419 d420 d421 d422 d423 d424 d425 d426 d427 d428 d429 d430 d431 d432 d433 d434 d435 d436 d437 d438 d439 d440 d441 d442 d443 d444 : Value) (w0 w : World) (nn m nk nh gp gop gst ghd : Nat) (at1 ah ak aw : Option Addr) (ct ch ck cw : Nat) (A0 : List (Nat × Nat)) (ks : List (List Nat)) (pt : List Bool) (st hd : List Int)
    (hT : Src .i32 w (.slice at1 m ct) (castN (A0.map Prod.fst))) (hH : Src .i32 w (.slice ah m ch) (castN (A0.map Prod.snd))) (hm : A0.length = m) (hS : Own .i32 21 w 0 (.slice (some ⟨gst, 0, none⟩) (nn + 1) (nn + 1)) st) (hD : Own .i32 21 w 0 (.slice (some ⟨ghd, 0, none⟩) m m) hd) (hcsr : CSR A0 nn st hd)
    (hP : Pb w gp nn pt) (hO : Pb w gop nn (List.replicate nn true)) (hKw : Kw w ak nk nn ks) (hW : Hw w aw nh (hubs pt ks)) (hA : ∀ a b, (a, b) ∈ A0 → a < nn ∧ b < nn) (hnn : nn ≤ 16) (hnk : nk ≤ 64) (hm2 : m ≤ 1000) (t0 : Tch Non w0 w)
    (K : Act → World → Prop) (hK : ∀ a w', Code.wp Yba.prog (snd ((Yba.f4.body.bind (tailAt 67)).getD .skip)) (LPost w0) a w' → K a w') :
    Code.wp Yba.prog (fst ((Yba.f4.body.bind (tailAt 67)).getD .skip)) (Exit.then K (LPost w0)) ⟨#[d0, d1, d2, d3, d4, d5, d6, d7, d8, d9, .int .i64 (nn : Int), .slice at1 m ct, .slice ah m ch, d13, .slice (some ⟨gst, 0, none⟩) (nn + 1) (nn + 1), d15, d16, d17, .slice (some ⟨ghd, 0, none⟩) m m, d19, d20, d21, .slice (some ⟨gp, 0, none⟩) nn nn, d23, .slice (some ⟨gop, 0, none⟩) nn nn, d25, .slice ak nk ck, .slice aw nh cw, d28, d29, d30, d31, d32, d33, d34, d35, d36, d37, d38, d39, d40, d41, d42, d43, d44, d45, d46, d47, d48, d49, d50, d51, d52, d53, d54, d55, d56, d57, d58, d59, d60, d61, d62, d63, d64, d65, d66, d67, d68, d69, d70, d71, d72, d73, d74, d75, d76, d77, d78, d79, d80, d81, d82, d83, d84, d85, d86, d87, d88, d89, d90, d91, d92, d93, d94, d95, d96, d97, d98, d99, d100, d101, d102, d103, d104, d105, d106, d107, d108, d109, d110, d111, d112, d113, d114, d115, d116, d117, d118, d119, d120, d121, d122, d123, d124, d125, d126, d127, d128, d129, d130, d131, d132, d133, d134, d135, d136, d137, d138, d139, d140, d141, d142, d143, d144, d145, d146, d147, d148, d149, d150, d151, d152, d153, d154, d155, d156, d157, d158, d159, d160, d161, d162, d163, d164, d165, d166, d167, d168, d169, d170, d171, d172, d173, d174, d175, d176, d177, d178, d179, d180, d181, d182, d183, d184, d185, d186, d187, d188, d189, d190, d191, d192, d193, d194, d195, d196, d197, d198, d199, d200, d201, d202, d203, d204, d205, d206, d207, d208, d209, d210, d211, d212, d213, d214, d215, d216, d217, d218, d219, d220, d221, d222, d223, d224, d225, d226, d227, d228, d229, d230, d231, d232, d233, d234, d235, d236, d237, d238, d239, d240, d241, d242, d243, d244, d245, d246, d247, d248, d249, d250, d251, d252, d253, d254, d255, d256, d257, d258, d259, d260, d261, d262, d263, d264, d265, d266, d267, d268, d269, d270, d271, d272, d273, d274, d275, d276, d277, d278, d279, d280, d281, d282, d283, d284, d285, d286, d287, d288, d289, d290, d291, d292, d293, d294, d295, d296, d297, d298, d299, d300, d301, d302, d303, d304, d305, d306, d307, d308, d309, d310, d311, d312, d313, d314, d315, d316, d317, d318, d319, d320, d321, d322, d323, d324, d325, d326, d327, d328, d329, d330, d331, d332, d333, d334, d335, d336, d337, d338, d339, d340, d341, d342, d343, d344, d345, d346, d347, d348, d349, d350, d351, d352, d353, d354, d355, d356, d357, d358, d359, d360, d361, d362, d363, d364, d365, d366, d367, d368, d369, d370, d371, d372, d373, d374, d375, d376, d377, d378, d379, d380, d381, d382, d383, d384, d385, d386, d387, d388, d389, d390, d391, d392, d393, d394, d395, d396, d397, d398, d399, d400, d401, d402, d403, d404, d405, d406, d407, d408, d409, d410, d411, d412, d413, d414, d415, d416, d417, d418, d419, d420, d421, d422, d423, d424, d425, d426, d427, d428, d429, d430, d431, d432, d433, d434, d435, d436, d437, d438, d439, d440, d441, d442, d443, d444], []⟩ w := by
  conv => arg 2; whnf
  conv at hK => enter [a, w', 1, 2]; whnf
  have HT := hide hT
  have HH := hide hH
  have HS := hide hS
  have HD := hide hD
  have HC := hide hcsr
  have HP := hide hP
  have HO := hide hO
  have HKW := hide hKw
  have HW := hide hW
  have HA := hide hA
  have T0 := hide t0
  clear hT hH hS hD hcsr hP hO hKw hW hA t0
  obtain ⟨i0, hi0, hz0, hz1, hz2⟩ := info_parts Cm.info21
  obtain ⟨i3, hi3, hx0, hx1, hx2⟩ := info_parts info3
  go_upto_region 68 with fail
  have bg := Blk.new w #[.string { data := #[] }, .int .u8 0, .int .u8 0, .slice none 0 0, .slice none 0 0, .slice none 0 0, .slice ak nk ck, .slice none 0 0, .slice none 0 0, .pointer none, .slice none 0 0, .int .i64 0, .slice none 0 0, .slice none 0 0, .slice none 0 0, .slice none 0 0, .slice none 0 0, .pointer none, .slice none 0 0, .slice none 0 0, .slice none 0 0, .slice none 0 0, .nilIface] 64
  have g6 : (w.alloc (.cells #[.string { data := #[] }, .int .u8 0, .int .u8 0, .slice none 0 0, .slice none 0 0, .slice none 0 0, .slice ak nk ck, .slice none 0 0, .slice none 0 0, .pointer none, .slice none 0 0, .int .i64 0, .slice none 0 0, .slice none 0 0, .slice none 0 0, .slice none 0 0, .slice none 0 0, .pointer none, .slice none 0 0, .slice none 0 0, .slice none 0 0, .slice none 0 0, .nilIface] 64)).cell? ⟨w.heap.size, 6, none⟩ = some (.slice ak nk ck) := bg.cell 6
  have g1 : (w.alloc (.cells #[.string { data := #[] }, .int .u8 0, .int .u8 0, .slice none 0 0, .slice none 0 0, .slice none 0 0, .slice ak nk ck, .slice none 0 0, .slice none 0 0, .pointer none, .slice none 0 0, .int .i64 0, .slice none 0 0, .slice none 0 0, .slice none 0 0, .slice none 0 0, .slice none 0 0, .pointer none, .slice none 0 0, .slice none 0 0, .slice none 0 0, .slice none 0 0, .nilIface] 64)).cell? ⟨w.heap.size, 1, none⟩ = some (.int .u8 0) := bg.cell 1
  have T1 := hide ((Tch.refl Non w).alloc (.cells #[.string { data := #[] }, .int .u8 0, .int .u8 0, .slice none 0 0, .slice none 0 0, .slice none 0 0, .slice ak nk ck, .slice none 0 0, .slice none 0 0, .pointer none, .slice none 0 0, .int .i64 0, .slice none 0 0, .slice none 0 0, .slice none 0 0, .slice none 0 0, .slice none 0 0, .pointer none, .slice none 0 0, .slice none 0 0, .slice none 0 0, .slice none 0 0, .nilIface] 64))
  have G6 := hide g6
  have G1 := hide g1
  clear bg g6 g1
  generalize w.alloc (.cells #[.string { data := #[] }, .int .u8 0, .int .u8 0, .slice none 0 0, .slice none 0 0, .slice none 0 0, .slice ak nk ck, .slice none 0 0, .slice none 0 0, .pointer none, .slice none 0 0, .int .i64 0, .slice none 0 0, .slice none 0 0, .slice none 0 0, .slice none 0 0, .slice none 0 0, .pointer none, .slice none 0 0, .slice none 0 0, .slice none 0 0, .slice none 0 0, .nilIface] 64) = w2 at *
  generalize hgg : w.heap.size = gg at *
  go_upto_region 69 with (first
    | (refine wpList_make_full _ rfl (.tmp 265) (.tmp 265) 23 rfl _ 21 i0 (.int .i32 0) 1 Yba.underlying23 hi0 hz0 hz1 .i64 .i64 _ _ nn rfl rfl rfl rfl (by rw [hz2]; omega) (by unfold maxLen; omega) (Nat.le_refl _) ?_; intro w3 hown3 hgr3; have t3 := (Tch.refl Non _).of_grownBy hgr3 (by simp); clear hown3 hgr3; simp only [Act.put, List.setIfInBounds_toArray, List.set_cons_zero, List.set_cons_succ]) | fail)
  have e266 : (w2.alloc (.cells #[.pointer (some ⟨gg, 0, none⟩), .int .i32 (nn : Int), .slice none 0 0, .int .i32 0, .slice none 0 0, .slice none 0 0, .slice none 0 0] 29)).heap.size = w2.heap.size + 1 := by simp
  rw [e266]
  clear e266
  have b29 := Blk.new w2 #[.pointer (some ⟨gg, 0, none⟩), .int .i32 (nn : Int), .slice none 0 0, .int .i32 0, .slice none 0 0, .slice none 0 0, .slice none 0 0] 29
  have b68 := Blk.new w3 #[.slice (some ⟨gst, 0, none⟩) (nn + 1) (nn + 1), .slice (some ⟨ghd, 0, none⟩) m m, .slice (some ⟨w2.heap.size + 1, 0, none⟩) nn nn, .slice none 0 0, .slice none 0 0] 68
  have b81 := Blk.new (w3.alloc (.cells #[.slice (some ⟨gst, 0, none⟩) (nn + 1) (nn + 1), .slice (some ⟨ghd, 0, none⟩) m m, .slice (some ⟨w2.heap.size + 1, 0, none⟩) nn nn, .slice none 0 0, .slice none 0 0] 68)) #[.pointer (some ⟨gg, 0, none⟩), .pointer (some ⟨w2.heap.size, 0, none⟩), .slice none 0 0, .slice none 0 0, .slice none 0 0, .int .i64 0, .slice none 0 0, .map none, .pointer (some ⟨w3.heap.size, 0, none⟩), .int .u32 0, .pointer none] 81
  have tA := (Tch.refl Non w2).alloc (.cells #[.pointer (some ⟨gg, 0, none⟩), .int .i32 (nn : Int), .slice none 0 0, .int .i32 0, .slice none 0 0, .slice none 0 0, .slice none 0 0] 29)
  have tC := (Tch.refl Non w3).alloc (.cells #[.slice (some ⟨gst, 0, none⟩) (nn + 1) (nn + 1), .slice (some ⟨ghd, 0, none⟩) m m, .slice (some ⟨w2.heap.size + 1, 0, none⟩) nn nn, .slice none 0 0, .slice none 0 0] 68)
  have tD := (Tch.refl Non (w3.alloc (.cells #[.slice (some ⟨gst, 0, none⟩) (nn + 1) (nn + 1), .slice (some ⟨ghd, 0, none⟩) m m, .slice (some ⟨w2.heap.size + 1, 0, none⟩) nn nn, .slice none 0 0, .slice none 0 0] 68))).alloc (.cells #[.pointer (some ⟨gg, 0, none⟩), .pointer (some ⟨w2.heap.size, 0, none⟩), .slice none 0 0, .slice none 0 0, .slice none 0 0, .int .i64 0, .slice none 0 0, .map none, .pointer (some ⟨w3.heap.size, 0, none⟩), .int .u32 0, .pointer none] 81)
  have hsz : (w3.alloc (.cells #[.slice (some ⟨gst, 0, none⟩) (nn + 1) (nn + 1), .slice (some ⟨ghd, 0, none⟩) m m, .slice (some ⟨w2.heap.size + 1, 0, none⟩) nn nn, .slice none 0 0, .slice none 0 0] 68)).heap.size = w3.heap.size + 1 := by simp
  rw [hsz] at b81
  have S0 := hide (b81.cell 0)
  have S1 := hide (b81.cell 1)
  have S8 := hide (b81.cell 8)
  have D1 := hide (tD.cell (tC.cell (t3.cell (show _ = some (Value.int .i32 (nn : Int)) from b29.cell 1) (fun h => h)) (fun h => h)) (fun h => h))
  have F0 := hide (tD.cell (show _ = some (Value.slice (some ⟨gst, 0, none⟩) (nn + 1) (nn + 1)) from b68.cell 0) (fun h => h))
  have F1 := hide (tD.cell (show _ = some (Value.slice (some ⟨ghd, 0, none⟩) m m) from b68.cell 1) (fun h => h))
  have F2 := hide (tD.cell (show _ = some (Value.slice (some ⟨w2.heap.size + 1, 0, none⟩) nn nn) from b68.cell 2) (fun h => h))
  have T28 := ((tA.also t3).also tC).also tD
  have T8 := hide (T1.out.also T28)
  have GG6 := hide (T28.cell G6.out (fun h => h))
  have GG1 := hide (T28.cell G1.out (fun h => h))
  clear b29 b68 b81 tA t3 tC tD T28 T1 G6 G1 hsz
  generalize (w3.alloc (.cells #[.slice (some ⟨gst, 0, none⟩) (nn + 1) (nn + 1), .slice (some ⟨ghd, 0, none⟩) m m, .slice (some ⟨w2.heap.size + 1, 0, none⟩) nn nn, .slice none 0 0, .slice none 0 0] 68)).alloc (.cells #[.pointer (some ⟨gg, 0, none⟩), .pointer (some ⟨w2.heap.size, 0, none⟩), .slice none 0 0, .slice none 0 0, .slice none 0 0, .int .i64 0, .slice none 0 0, .map none, .pointer (some ⟨w3.heap.size, 0, none⟩), .int .u32 0, .pointer none] 81) = w8 at *
  generalize w3.heap.size + 1 = gps at *
  generalize w3.heap.size = gf at *
  generalize w2.heap.size + 1 = grk at *
  generalize w2.heap.size = gd at *
  go_cut [37] from 271 to 278 (fun v wx => ∃ grp gpo : Nat, v = .pointer (some ⟨grp, 0, none⟩) ∧ wx.cell? ⟨grp, 0, none⟩ = some (.pointer (some ⟨gps, 0, none⟩)) ∧ wx.cell? ⟨grp, 2, none⟩ = some (.slice (some ⟨gpo, 0, none⟩) nn nn) ∧ (∀ x, x < nn → wx.cell? ⟨gpo, x, none⟩ = some (.int .i64 0)) ∧ Tch Non w8 wx)
  case first =>
    refine wp_region_held_drew (S := fun _ => True) (by kernel_rfl) trivial (fun hHeld => ?_)
    clear hHeld
    have TD := hide (show Tch Non w8 w8.drew from ⟨rfl, rfl, rfl, Nat.le_refl _, fun _ _ _ => rfl⟩)
    generalize w8.drew = Wd at *
    refine wpAnyH_take (i := 0) (oi := { dst := some 271, op := Op.move (Operand.tmp 36), type := 65, pos := "zz_law_s0093c.go:62", after := #[], guard := none }) (v := .pointer (some ⟨gps, 0, none⟩)) rfl (by kernel_rfl) (by kernel_rfl) (by kernel_rfl) (fun _ _ _ h => h) (Or.inl ⟨by rfl, fun w0 hSw => by go_simp⟩) trivial ?_
    try simp only [Act.put, List.setIfInBounds_toArray, List.set_cons_zero, List.set_cons_succ]
    refine wpAnyH_take (i := 1) (oi := { dst := some 272, op := Op.move (Operand.tmp 10), type := 3, pos := "zz_law_s0093c.go:62", after := #[], guard := none }) (v := .int .i64 (nn : Int)) rfl (by kernel_rfl) (by kernel_rfl) (by kernel_rfl) (fun _ _ _ h => h) (Or.inl ⟨by rfl, fun w0 hSw => by go_simp⟩) trivial ?_
    try simp only [Act.put, List.setIfInBounds_toArray, List.set_cons_zero, List.set_cons_succ]
    refine wpAnyH_take (i := 3) (oi := { dst := some 274, op := Op.move (Operand.tmp 10), type := 3, pos := "zz_law_s0093c.go:62", after := #[], guard := none }) (v := .int .i64 (nn : Int)) rfl (by kernel_rfl) (by kernel_rfl) (by kernel_rfl) (fun _ _ _ h => h) (Or.inl ⟨by rfl, fun w0 hSw => by go_simp⟩) trivial ?_
    try simp only [Act.put, List.setIfInBounds_toArray, List.set_cons_zero, List.set_cons_succ]
    refine wpAnyH_ready (rs := [2, 4]) (by kernel_rfl) (by simp) ?_
    refine AllReadyH.cons (o := { dst := some 273, op := Op.makeSlice 23 (Operand.tmp 272) (Operand.tmp 272), type := 23, pos := "zz_law_s0093c.go:62", after := #[{ on := 1, ground := Ground.data }, { on := 1, ground := Ground.data }], guard := none }) rfl (fun K hK => ?_) (AllReadyH.cons (o := { dst := some 275, op := Op.makeSlice 54 (Operand.tmp 274) (Operand.tmp 274), type := 54, pos := "zz_law_s0093c.go:62", after := #[{ on := 3, ground := Ground.data }, { on := 3, ground := Ground.data }], guard := none }) rfl (fun K hK => ?_) (AllReadyH.nil))
    · skip
      refine step_m 23 21 i0 _ .i32 rfl Yba.underlying23 hi0 hz0 hz1 (by rw [hz2]; decide) rfl (.tmp 272) rfl nn rfl (by omega) ?_
      intro x1 ox1 tx1
      replace ox1 := hide ox1
      replace tx1 := hide tx1
      refine hK.out _ _ trivial (fun _ => ?_)
      clear hK K
      try simp only [Act.put, List.setIfInBounds_toArray, List.set_cons_zero, List.set_cons_succ]
      refine wpAnyH_ready (rs := [4]) (by kernel_rfl) (by simp) ?_
      refine AllReadyH.cons (o := { dst := some 275, op := Op.makeSlice 54 (Operand.tmp 274) (Operand.tmp 274), type := 54, pos := "zz_law_s0093c.go:62", after := #[{ on := 3, ground := Ground.data }, { on := 3, ground := Ground.data }], guard := none }) rfl (fun K hK => ?_) (AllReadyH.nil)
      · skip
        refine step_m 54 3 i3 _ .i64 rfl Yba.underlying54 hi3 hx0 hx1 (by rw [hx2]; decide) rfl (.tmp 274) rfl nn rfl (by omega) ?_
        intro x2 ox2 tx2
        replace ox2 := hide ox2
        replace tx2 := hide tx2
        refine hK.out _ _ trivial (fun _ => ?_)
        clear hK K
        try simp only [Act.put, List.setIfInBounds_toArray, List.set_cons_zero, List.set_cons_succ]
        refine wpAnyH_take (i := 5) (oi := { dst := some 276, op := Op.build 84 #[(0, Operand.tmp 271), (1, Operand.tmp 273), (2, Operand.tmp 275)], type := 84, pos := "zz_law_s0093c.go:62", after := #[{ on := 0, ground := Ground.data }, { on := 2, ground := Ground.data }, { on := 4, ground := Ground.data }], guard := none }) (v := .agg #[.pointer (some ⟨gps, 0, none⟩), .slice (some ⟨Wd.heap.size, 0, none⟩) nn nn, .slice (some ⟨x1.heap.size, 0, none⟩) nn nn]) rfl (by kernel_rfl) (by kernel_rfl) (by kernel_rfl) (fun _ _ _ h => h) (Or.inl ⟨by rfl, fun w0 hSw => by go_simp⟩) trivial ?_
        try simp only [Act.put, List.setIfInBounds_toArray, List.set_cons_zero, List.set_cons_succ]
        refine wpAnyH_ready (rs := [6]) (by kernel_rfl) (by simp) ?_
        refine AllReadyH.cons (o := { dst := some 277, op := Op.box 84 (Operand.tmp 276), type := 82, pos := "zz_law_s0093c.go:62", after := #[{ on := 5, ground := Ground.data }], guard := none }) rfl (fun K hK => ?_) AllReadyH.nil
        go_simp
        refine hK.out _ _ trivial (fun _ => ?_)
        clear hK K
        try simp only [Act.put, List.setIfInBounds_toArray, List.set_cons_zero, List.set_cons_succ]
        refine wpAnyH_take (i := 7) (oi := { dst := some 37, op := Op.assign (Operand.tmp 277), type := 82, pos := "zz_law_s0093c.go:62", after := #[{ on := 6, ground := Ground.data }, { on := 0, ground := Ground.phase }, { on := 1, ground := Ground.phase }, { on := 2, ground := Ground.phase }, { on := 3, ground := Ground.phase }, { on := 4, ground := Ground.phase }, { on := 5, ground := Ground.phase }, { on := 6, ground := Ground.phase }], guard := none }) (v := .pointer (some ⟨x2.heap.size, 0, none⟩)) rfl (by kernel_rfl) (by kernel_rfl) (by kernel_rfl) (fun _ _ _ h => h) (Or.inl ⟨by rfl, fun w0 hSw => by go_simp⟩) trivial ?_
        try simp only [Act.put, List.setIfInBounds_toArray, List.set_cons_zero, List.set_cons_succ]
        refine wpAnyH_done (by kernel_rfl) ?_ _
        go_wp2_with fail
        go_meet
        case rel =>
          have bb := Blk.new x2 #[.pointer (some ⟨gps, 0, none⟩), .slice (some ⟨Wd.heap.size, 0, none⟩) nn nn, .slice (some ⟨x1.heap.size, 0, none⟩) nn nn] 84
          have ps := (ox2.out.alloc (.cells #[.pointer (some ⟨gps, 0, none⟩), .slice (some ⟨Wd.heap.size, 0, none⟩) nn nn, .slice (some ⟨x1.heap.size, 0, none⟩) nn nn] 84))
          exact ⟨x2.heap.size, x1.heap.size, rfl, bb.cell 0, bb.cell 2, fun x hx => ps.at (by rw [List.getElem?_replicate, if_pos hx]), ((TD.out.also tx1.out).also tx2.out).alloc _⟩
    · skip
      refine step_m 54 3 i3 _ .i64 rfl Yba.underlying54 hi3 hx0 hx1 (by rw [hx2]; decide) rfl (.tmp 274) rfl nn rfl (by omega) ?_
      intro x1 ox1 tx1
      replace ox1 := hide ox1
      replace tx1 := hide tx1
      refine hK.out _ _ trivial (fun _ => ?_)
      clear hK K
      try simp only [Act.put, List.setIfInBounds_toArray, List.set_cons_zero, List.set_cons_succ]
      refine wpAnyH_ready (rs := [2]) (by kernel_rfl) (by simp) ?_
      refine AllReadyH.cons (o := { dst := some 273, op := Op.makeSlice 23 (Operand.tmp 272) (Operand.tmp 272), type := 23, pos := "zz_law_s0093c.go:62", after := #[{ on := 1, ground := Ground.data }, { on := 1, ground := Ground.data }], guard := none }) rfl (fun K hK => ?_) (AllReadyH.nil)
      · skip
        refine step_m 23 21 i0 _ .i32 rfl Yba.underlying23 hi0 hz0 hz1 (by rw [hz2]; decide) rfl (.tmp 272) rfl nn rfl (by omega) ?_
        intro x2 ox2 tx2
        replace ox2 := hide ox2
        replace tx2 := hide tx2
        refine hK.out _ _ trivial (fun _ => ?_)
        clear hK K
        try simp only [Act.put, List.setIfInBounds_toArray, List.set_cons_zero, List.set_cons_succ]
        refine wpAnyH_take (i := 5) (oi := { dst := some 276, op := Op.build 84 #[(0, Operand.tmp 271), (1, Operand.tmp 273), (2, Operand.tmp 275)], type := 84, pos := "zz_law_s0093c.go:62", after := #[{ on := 0, ground := Ground.data }, { on := 2, ground := Ground.data }, { on := 4, ground := Ground.data }], guard := none }) (v := .agg #[.pointer (some ⟨gps, 0, none⟩), .slice (some ⟨x1.heap.size, 0, none⟩) nn nn, .slice (some ⟨Wd.heap.size, 0, none⟩) nn nn]) rfl (by kernel_rfl) (by kernel_rfl) (by kernel_rfl) (fun _ _ _ h => h) (Or.inl ⟨by rfl, fun w0 hSw => by go_simp⟩) trivial ?_
        try simp only [Act.put, List.setIfInBounds_toArray, List.set_cons_zero, List.set_cons_succ]
        refine wpAnyH_ready (rs := [6]) (by kernel_rfl) (by simp) ?_
        refine AllReadyH.cons (o := { dst := some 277, op := Op.box 84 (Operand.tmp 276), type := 82, pos := "zz_law_s0093c.go:62", after := #[{ on := 5, ground := Ground.data }], guard := none }) rfl (fun K hK => ?_) AllReadyH.nil
        go_simp
        refine hK.out _ _ trivial (fun _ => ?_)
        clear hK K
        try simp only [Act.put, List.setIfInBounds_toArray, List.set_cons_zero, List.set_cons_succ]
        refine wpAnyH_take (i := 7) (oi := { dst := some 37, op := Op.assign (Operand.tmp 277), type := 82, pos := "zz_law_s0093c.go:62", after := #[{ on := 6, ground := Ground.data }, { on := 0, ground := Ground.phase }, { on := 1, ground := Ground.phase }, { on := 2, ground := Ground.phase }, { on := 3, ground := Ground.phase }, { on := 4, ground := Ground.phase }, { on := 5, ground := Ground.phase }, { on := 6, ground := Ground.phase }], guard := none }) (v := .pointer (some ⟨x2.heap.size, 0, none⟩)) rfl (by kernel_rfl) (by kernel_rfl) (by kernel_rfl) (fun _ _ _ h => h) (Or.inl ⟨by rfl, fun w0 hSw => by go_simp⟩) trivial ?_
        try simp only [Act.put, List.setIfInBounds_toArray, List.set_cons_zero, List.set_cons_succ]
        refine wpAnyH_done (by kernel_rfl) ?_ _
        go_wp2_with fail
        go_meet
        case rel =>
          have bb := Blk.new x2 #[.pointer (some ⟨gps, 0, none⟩), .slice (some ⟨x1.heap.size, 0, none⟩) nn nn, .slice (some ⟨Wd.heap.size, 0, none⟩) nn nn] 84
          have ps := ((ox1.out.keep tx2.out).alloc (.cells #[.pointer (some ⟨gps, 0, none⟩), .slice (some ⟨x1.heap.size, 0, none⟩) nn nn, .slice (some ⟨Wd.heap.size, 0, none⟩) nn nn] 84))
          exact ⟨x2.heap.size, Wd.heap.size, rfl, bb.cell 0, bb.cell 2, fun x hx => ps.at (by rw [List.getElem?_replicate, if_pos hx]), ((TD.out.also tx1.out).also tx2.out).alloc _⟩
  case rest =>
    obtain ⟨grp, gpo, rfl, r0, r2, rp, tx⟩ := hcut
    have TX := hide (T8.out.also tx)
    have RP := hide (show Rp wc grp gps gg gd gf gpo grk nn gst ghd m st hd from ⟨r0, r2, rp, tx.cell S0.out (fun h => h), tx.cell S1.out (fun h => h), tx.cell S8.out (fun h => h), tx.cell D1.out (fun h => h), tx.cell F0.out (fun h => h), tx.cell F1.out (fun h => h), tx.cell F2.out (fun h => h), HS.out.keep TX.out, HD.out.keep TX.out⟩)
    have HCA := hide (heldClosure_any wc grp gps gg gd gf gpo grk nn gst ghd m gp gop ak nk ck ks pt st hd A0 RP.out (HKW.out.gm TX.out (tx.cell GG6.out (fun h => h)) (tx.cell GG1.out (fun h => h))) (HP.out.keep TX.out) (HO.out.keep TX.out) HC.out HA.out hm hm2 hnk (by omega))
    clear r0 r2 rp tx S0 S1 S8 D1 F0 F1 F2 GG6 GG1
    go_upto_region 71 with (first | (go_at_call 9; refine HCA.out.mono ?_; rintro e w9 ⟨gc, cl, rfl, ocl, tcl, hsp⟩; have OCL := hide ocl; have TCL := hide (TX.out.also tcl); have HSP := hide hsp; clear ocl tcl hsp) | fail)
    clear HCA RP
    go_upto_region 73 with fail
    rename_i K1 h1
    have hhl : nh ≤ 64 := by
      have h1 := HW.out.len
      have h2 := hubs_len pt ks
      rw [HKW.out.len] at h2
      omega
    exact segZ _ _ _ _ _ _ _ _ _ _ _ _ _ _ _ _ _ _ _ _ _ _ _ _ _ _ _ _ _ _ _ _ _ _ _ _ _ _ _ _ _ _ _ _ _ _ _ _ _ _ _ _ _ _ _ _ _ _ _ _ _ _ _ _ _ _ _ _ _ _ _ _ _ _ _ _ _ _ _ _ _ _ _ _ _ _ _ _ _ _ _ _ _ _ _ _ _ _ _ _ _ _ _ _ _ _ _ _ _ _ _ _ _ _ _ _ _ _ _ _ _ _ _ _ _ _ _ _ _ _ _ _ _ _ _ _ _ _ _ _ _ _ _ _ _ _ _ _ _ _ _ _ _ _ _ _ _ _ _ _ _ _ _ _ _ _ _ _ _ _ _ _ _ _ _ _ _ _ _ _ _ _ _ _ _ _ _ _ _ _ _ _ _ _ _ _ _ _ _ _ _ _ _ _ _ _ _ _ _ _ _ _ _ _ _ _ _ _ _ _ _ _ _ _ _ _ _ _ _ _ _ _ _ _ _ _ _ _ _ _ _ _ _ _ _ _ _ _ _ _ _ _ _ _ _ _ _ _ _ _ _ _ _ _ _ _ _ _ _ _ _ _ _ _ _ _ _ _ _ _ _ _ _ _ _ _ _ _ _ _ _ _ _ _ _ _ _ _ _ _ _ _ _ _ _ _ _ _ _ _ _ _ _ _ _ _ _ _ _ _ _ _ _ _ _ _ _ _ _ _ _ _ _ _ _ _ _ _ _ _ _ _ _ _ _ _ _ _ _ _ _ _ _ _ _ _ _ _ _ _ _ _ _ _ _ _ _ _ _ _ _ _ _ _ _ _ _ _ _ _ _ _ _ _ _ _ _ _ _ _ _ _ _ _ _ _ _ _ _ _ _ _ _ _ _ _ _ _ _ _ _ _ _ _ _ _ _ _ _ _ _ _ _ _ _ _ _ _ _ _ _ _ _ _ _ _ _ _ _ w0 w9 nn m nh gp gc at1 ah aw ct ch cw A0 (hubs pt ks) pt cl (Kn.Src.keep HT.out TCL.out) (Kn.Src.keep HH.out TCL.out) hm (HW.out.keep TCL.out) (HP.out.keep TCL.out) ⟨OCL.out.len, fun i b hi => OwnB.cell OCL.out hi⟩ HSP.out HA.out (fun l hl => by
      obtain ⟨ws, h1, rfl⟩ := hubs_sub hl
      have h2 := inP_len pt ws ws.length
      rw [List.take_length] at h2
      have h3 := HKW.out.rng ws h1
      exact ⟨by omega, fun x hx => h3.2 x (inP_mem hx).1⟩) hnn hhl hm2 (T0.out.also TCL.out) K1 h1
end Go.Proofs.Ybulkaxc.Law
