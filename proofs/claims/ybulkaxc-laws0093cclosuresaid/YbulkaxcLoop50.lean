/-
  LawS0093CClosure (4): the keys.
-/
import Derived.Test.YbulkaxcKq
import Derived.Test.YbulkaxcCut2
namespace Go.Proofs.Ybulkaxc.Law
open Go Go.RowKit Go.Proofs.Ybulkaxc.M2 Go.Proofs.Ybulkaxc.Cm Go.Proofs.Ybulkaxc.Kn Go.Proofs.Ybulkaxc.Hb Go.Proofs.Ybulkaxc.Pl2 Go.Proofs.Ybulkaxc.Tj Go.Proofs.Ybulkaxc.Hc Go.Proofs.Ybulkaxc.Mx Go.Proofs.Ybulkaxc.Cut2
set_option linter.unusedVariables false
set_option linter.unusedSimpArgs false
theorem row_slice {w : World} {B : Nat} {e : TypeId} {size : Nat} {v : Value} {n : Nat} {xs : List Value} (h : w.ownsRow B e size v n xs) : ∃ a n c, v = .slice a n c := by
  rcases h.2 with ⟨rfl, _⟩ | ⟨g, cap, cur, rfl, _⟩
  · exact ⟨_, _, _, rfl⟩
  · exact ⟨_, _, _, rfl⟩
set_option maxRecDepth 100000 in
set_option maxHeartbeats 8000000 in
theorem loop50 (d0 d1 d3 d4 d5 d6 d7 d8 d9 d11 d12 d13 d14 d15 d16 d17 d18 d19 d20 d21 d23 d24 d25 d28 d29 d30 d31 d32 d33 d34 d35 d36 d37 d38 d39 d40 d41 d42 d43 d44 d45 d46 d47 d48 d49 d50 d51 d52 d53 d54 d55 d56 d57 d58 d59 d60 d61 d62 d63 d64 d65 d66 d67 d68 d69 d70 d71 d72 d73 d74 d75 d76 d77 d78 d79 d80 d81 d82 d83 d84 d85 d86 d87 d88 d89 d90 d91 d92 d93 d94 d95 d96 d97 d98 d99 d100 d101 d102 d103 d104 d105 d106 d107 d108 d109 d110 d111 d112 d113 d114 d115 d116 d117 d118 d119 d120 d121 d122 d123 d124 d125 d126 d127 d128 d129 d130 d131 d132 d133 d134 d135 d136 d137 d138 d139 d140 d141 d142 d143 d144 d145 d146 d147 d148 d149 d150 d151 d152 d153 d154 d155 d156 d157 d158 d159 d160 d161 d162 d163 d164 d165 d166 d167 d168 d169 d170 d171 d172 d173 d174 d175 d176 d177 d178 d179 d180 d181 d182 d183 d184 d185 d186 d187 d188 d189 d190 d191 d192 d193 d194 d195 d196 d197 d198 d199 d200 d201 d202 d203 d204 d205 d206 d207 d208 d209 d210 d211 d212 d213 d214 d215 d216 d217 d218 d219 d220 d221 d222 d223 d224 d225 d226 d227 d228 d229 d230 d231 d232 d233 d234 d235 d236 d237 d238 d239 d240 d241 d242 d243 d244 d245 d246 d247 d248 d249 d250 d251 d252 d253 d254 d255 d256 d257 d258 d259 d260 d261 d262 d263 d264 d265 d266 d267 d268 d269 d270 d271 d272 d273 d274 d275 d276 d277 d278 d279 d280 d281 d282 d283 d284 d285 d286 d287 d288 d289 d290 d291 d292 d293 d294 d295 d296 d297 d298 d299 d300 d301 d302 d303 d304 d305 d306 d307 d308 d309 d310 d311 d312 d313 d314 d315 d316 d317 d318 d319 d320 d321 d322 d323 d324 d325 d326 d327 d328 d329 d330 d331 d332 d333 d334 d335 d336 d337 d338 d339 d340 d341 d342 d343 d344 d345 d346 d347 d348 d349 d350 d351 d352 d353 d354 d355 d356 d357 d358 d359 d360 d361 d362 d363 d364 d365 d366 d367 d368 d369 d370 d371 d372 d373 d374 d375 d376 d377 d378 d379 d380 d381 d382 d383 d384 d385 d386 d387 d388 d389 d390 d391 d392 d393 d394 d395 d396 d397 d398 d399 d400 d401 d402 d403 d404 d405 d406 d407 d408 d409 d410 d411 d412 d413 d414 d415 d416 d417 d418 d419 d420 d421 d422 d423 d424 d425 d426 d427 d428 d429 d430 d431 d432 d433 d434 d435 d436 d437 d438 d439 d440 d441 d442 d443 d444 : Value) (w : World) (nn n2 gp : Nat) (a2 : Option Addr) (c2 : Nat) (kb : List (List Nat)) (pt : List Bool) (hKS : Ksrc w (.slice a2 n2 c2) kb) (hP : Pb w gp nn pt) (hkb : ∀ l ∈ kb, l.length ≤ 64 ∧ ∀ y ∈ l, y ≤ 255) (hn2 : n2 ≤ 64) (hnn : nn ≤ 16)
    (K1 K2 : Act → World → Prop) (Q : Exit → Act → World → Prop) (hK2 : ∀ a w', Code.wp Yba.prog (snd (fst ((Yba.f4.body.bind (tailAt 50)).getD .skip))) (Exit.then K1 Q) a w' → K2 a w')
    (hK1 : ∀ (x29 x30 x31 x33 x34 x209 x210 x211 x212 x213 x214 x215 x216 x217 x218 x219 x220 x221 x222 x223 x224 x225 x226 x227 x228 x229 x230 x231 x232 x233 x234 x235 x236 x237 x238 x239 x240 x241 x242 x243 x244 x245 x246 x247 x248 x249 x250 x251 x252 x253 : Value) (ak aw : Option Addr) (nk ck nh cw : Nat) (wr : World), KQ w pt (kb.map (wsOf nn)) (.slice ak nk ck) (.slice aw nh cw) wr → K1 ⟨#[d0, d1, .slice a2 n2 c2, d3, d4, d5, d6, d7, d8, d9, .int .i64 (nn : Int), d11, d12, d13, d14, d15, d16, d17, d18, d19, d20, d21, .slice (some ⟨gp, 0, none⟩) nn nn, d23, d24, d25, .slice ak nk ck, .slice aw nh cw, d28, x29, x30, x31, d32, x33, x34, d35, d36, d37, d38, d39, d40, d41, d42, d43, d44, d45, d46, d47, d48, d49, d50, d51, d52, d53, d54, d55, d56, d57, d58, d59, d60, d61, d62, d63, d64, d65, d66, d67, d68, d69, d70, d71, d72, d73, d74, d75, d76, d77, d78, d79, d80, d81, d82, d83, d84, d85, d86, d87, d88, d89, d90, d91, d92, d93, d94, d95, d96, d97, d98, d99, d100, d101, d102, d103, d104, d105, d106, d107, d108, d109, d110, d111, d112, d113, d114, d115, d116, d117, d118, d119, d120, d121, d122, d123, d124, d125, d126, d127, d128, d129, d130, d131, d132, d133, d134, d135, d136, d137, d138, d139, d140, d141, d142, d143, d144, d145, d146, d147, d148, d149, d150, d151, d152, d153, d154, d155, d156, d157, d158, d159, d160, d161, d162, d163, d164, d165, d166, d167, d168, d169, d170, d171, d172, d173, d174, d175, d176, d177, d178, d179, d180, d181, d182, d183, d184, d185, d186, d187, d188, d189, d190, d191, d192, d193, d194, d195, d196, d197, d198, d199, d200, d201, d202, d203, d204, d205, d206, d207, d208, x209, x210, x211, x212, x213, x214, x215, x216, x217, x218, x219, x220, x221, x222, x223, x224, x225, x226, x227, x228, x229, x230, x231, x232, x233, x234, x235, x236, x237, x238, x239, x240, x241, x242, x243, x244, x245, x246, x247, x248, x249, x250, x251, x252, x253, d254, d255, d256, d257, d258, d259, d260, d261, d262, d263, d264, d265, d266, d267, d268, d269, d270, d271, d272, d273, d274, d275, d276, d277, d278, d279, d280, d281, d282, d283, d284, d285, d286, d287, d288, d289, d290, d291, d292, d293, d294, d295, d296, d297, d298, d299, d300, d301, d302, d303, d304, d305, d306, d307, d308, d309, d310, d311, d312, d313, d314, d315, d316, d317, d318, d319, d320, d321, d322, d323, d324, d325, d326, d327, d328, d329, d330, d331, d332, d333, d334, d335, d336, d337, d338, d339, d340, d341, d342, d343, d344, d345, d346, d347, d348, d349, d350, d351, d352, d353, d354, d355, d356, d357, d358, d359, d360, d361, d362, d363, d364, d365, d366, d367, d368, d369, d370, d371, d372, d373, d374, d375, d376, d377, d378, d379, d380, d381, d382, d383, d384, d385, d386, d387, d388, d389, d390, d391, d392, d393, d394, d395, d396, d397, d398, d399, d400, d401, d402, d403, d404, d405, d406, d407, d408, d409, d410, d411, d412, d413, d414, d415, d416, d417, d418, d419, d420, d421, d422, d423, d424, d425, d426, d427, d428, d429, d430, d431, d432, d433, d434, d435, d436, d437, d438, d439, d440, d441, d442, d443, d444], []⟩ wr) :
    Code.wp Yba.prog (fst (fst ((Yba.f4.body.bind (tailAt 50)).getD .skip))) (Exit.then K2 (Exit.then K1 Q)) ⟨#[d0, d1, .slice a2 n2 c2, d3, d4, d5, d6, d7, d8, d9, .int .i64 (nn : Int), d11, d12, d13, d14, d15, d16, d17, d18, d19, d20, d21, .slice (some ⟨gp, 0, none⟩) nn nn, d23, d24, d25, .slice none 0 0, .slice none 0 0, d28, d29, d30, d31, d32, d33, d34, d35, d36, d37, d38, d39, d40, d41, d42, d43, d44, d45, d46, d47, d48, d49, d50, d51, d52, d53, d54, d55, d56, d57, d58, d59, d60, d61, d62, d63, d64, d65, d66, d67, d68, d69, d70, d71, d72, d73, d74, d75, d76, d77, d78, d79, d80, d81, d82, d83, d84, d85, d86, d87, d88, d89, d90, d91, d92, d93, d94, d95, d96, d97, d98, d99, d100, d101, d102, d103, d104, d105, d106, d107, d108, d109, d110, d111, d112, d113, d114, d115, d116, d117, d118, d119, d120, d121, d122, d123, d124, d125, d126, d127, d128, d129, d130, d131, d132, d133, d134, d135, d136, d137, d138, d139, d140, d141, d142, d143, d144, d145, d146, d147, d148, d149, d150, d151, d152, d153, d154, d155, d156, d157, d158, d159, d160, d161, d162, d163, d164, d165, d166, d167, d168, d169, d170, d171, d172, d173, d174, d175, d176, d177, d178, d179, d180, d181, d182, d183, d184, d185, d186, d187, d188, d189, d190, d191, d192, d193, d194, d195, d196, d197, d198, d199, d200, d201, d202, d203, d204, d205, d206, d207, d208, d209, d210, d211, d212, d213, d214, d215, d216, d217, d218, d219, d220, d221, d222, d223, d224, d225, d226, d227, d228, d229, d230, d231, d232, d233, d234, d235, d236, d237, d238, d239, d240, d241, d242, d243, d244, d245, d246, d247, d248, d249, d250, d251, d252, d253, d254, d255, d256, d257, d258, d259, d260, d261, d262, d263, d264, d265, d266, d267, d268, d269, d270, d271, d272, d273, d274, d275, d276, d277, d278, d279, d280, d281, d282, d283, d284, d285, d286, d287, d288, d289, d290, d291, d292, d293, d294, d295, d296, d297, d298, d299, d300, d301, d302, d303, d304, d305, d306, d307, d308, d309, d310, d311, d312, d313, d314, d315, d316, d317, d318, d319, d320, d321, d322, d323, d324, d325, d326, d327, d328, d329, d330, d331, d332, d333, d334, d335, d336, d337, d338, d339, d340, d341, d342, d343, d344, d345, d346, d347, d348, d349, d350, d351, d352, d353, d354, d355, d356, d357, d358, d359, d360, d361, d362, d363, d364, d365, d366, d367, d368, d369, d370, d371, d372, d373, d374, d375, d376, d377, d378, d379, d380, d381, d382, d383, d384, d385, d386, d387, d388, d389, d390, d391, d392, d393, d394, d395, d396, d397, d398, d399, d400, d401, d402, d403, d404, d405, d406, d407, d408, d409, d410, d411, d412, d413, d414, d415, d416, d417, d418, d419, d420, d421, d422, d423, d424, d425, d426, d427, d428, d429, d430, d431, d432, d433, d434, d435, d436, d437, d438, d439, d440, d441, d442, d443, d444], []⟩ w := by
  conv => arg 2; whnf
  conv at hK2 => enter [a, w', 1, 2]; whnf
  have HK := hide hK1
  clear hK1
  have HR0 := hide (show KQ w pt ((kb.map (wsOf nn)).take 0) (.slice none 0 0) (.slice none 0 0) w from ⟨fun _ => 0, none, 0, 0, none, 0, 0, [], [], rfl, rfl, ⟨fun i => K4_fine _ _ _ _ _ _ _ _ _ i, fun i => by
    match i with
    | 0 => trivial
    | 1 => exact World.ownsRow_nil _ _ _ _
    | 2 => exact World.ownsRow_nil _ _ _ _
    | 3 => exact Own.nil _ _ _ _
    | 4 => exact Own.nil _ _ _ _
    | k + 5 => trivial, fun i g hg => by
    match i, hg with
    | 0, hg => cases hg
    | 1, hg => cases hg
    | 2, hg => cases hg
    | 3, hg => cases hg
    | 4, hg => cases hg
    | k + 5, hg => cases hg⟩, TB.refl _ _, by simp, fun i ws h => by simp at h, by simp [hubs], fun i l h => by simp [hubs] at h⟩)
  have HK2 := hide hKS
  have HP := hide hP
  have HKB := hide hkb
  have hkl := hKS.len
  have HKL := hide hkl
  clear hKS hP hkb hkl
  obtain ⟨i0, hi0, hz0, hz1, hz2⟩ := info_parts Cm.info21
  obtain ⟨i4, hi4, hw0, hw1, hw2⟩ := info_parts info49
  obtain ⟨i5, hi5, hv0, hv1, hv2⟩ := info_parts Hh.info23
  go_wp2_with fail
  go_loopw [211, 26, 27] (fun t v26 v27 wq => ∃ k : Nat, k ≤ n2 ∧ t = .int .i64 (k : Int) ∧ KQ w pt ((kb.map (wsOf nn)).take k) v26 v27 wq) (fun t _ _ _ => n2 - (intOf t).toNat)
  case atStart => exact ⟨0, Nat.zero_le _, rfl, HR0.out⟩
  case round =>
    clear HR0
    obtain ⟨k, hk, rfl, tag, a1, n1, c1, a2', n2', c2', kv, hv, rfl, rfl, hb, ht, hkl, hkg, hhl, hhg⟩ := hrel
    by_cases hlt : k < n2
    · obtain ⟨l, hl⟩ : ∃ l, kb[k]? = some l := ⟨kb[k]'(by rw [HKL.out]; exact hlt), List.getElem?_eq_getElem _⟩
      have hll := (HKB.out l (List.mem_of_getElem? hl)).1
      have HBY := hide (HKB.out l (List.mem_of_getElem? hl)).2
      obtain ⟨g7, o7, n7, c7, a7, c7', e7, ck0, csr⟩ := HK2.out.rd k l hl
      cases e7
      have ck := (Cm.TB.toNon ht).cell ck0 (fun h => h)
      have HT0 := hide ht
      obtain ⟨ws, hwsd⟩ : ∃ ws, ws = wsOf nn l := ⟨_, rfl⟩
      have hks : (kb.map (wsOf nn)).take (k + 1) = (kb.map (wsOf nn)).take k ++ [ws] := by
        rw [List.take_add_one, List.getElem?_map, hl, hwsd]
        rfl
      have HNX := hide (fun wq tagq (a1' : Option Addr) (n1' c1' : Nat) (a2' : Option Addr) (n2' c2' : Nat) (hv' : List Value) (v3 v4 : Value) (hbq : Bag wq tagq (K4 w.heap.size (.slice a1' n1' c1') (kv ++ [v3]) (.slice a2' n2' c2') hv' v3 (castN ws) v4 (castN (inP pt ws)))) (htq : TB tag wr tagq wq) (hhv : (2 ≤ (inP pt ws).length ∧ hv' = hv ++ [v4]) ∨ (¬ 2 ≤ (inP pt ws).length ∧ hv' = hv)) =>
        (show KQ w pt ((kb.map (wsOf nn)).take (k + 1)) (.slice a1' n1' c1') (.slice a2' n2' c2') wq from by rw [hks]; exact KQ.step (a1 := a1) (n1 := n1) (c1 := c1) (a2 := a2') (n2 := n2') (c2 := c2') hkl hkg hhl hhg hbq ht htq hhv))
      have hkvl : kv.length ≤ 64 := by rw [hkl, List.length_take]; omega
      have hhvl : hv.length ≤ 64 := by
        rw [hhl]
        have h1 := hubs_len pt ((kb.map (wsOf nn)).take k)
        rw [List.length_take] at h1
        omega
      have hws : ws.length ≤ 64 := by
        rw [hwsd]
        unfold wsOf
        split
        · simp
        · simpa using hll
      have HB := hide hb
      have HT := hide (TB.refl tag wr)
      have HTW := hide (Cm.TB.toNon ht)
      have hBw : w.heap.size ≤ wr.heap.size := ht.tch.size
      have HSR := hide csr
      have HWSD := hide hwsd
      have HLL := hide hl
      clear hb ht hkg hhg hkl hhl hks csr hl hwsd ck0
      generalize hln : l.length = ln at *
      have e1 : (k : Int) < (n2 : Int) := by omega
      by_cases hn0 : nn = 0
      · have hw0' : ws = [] := by rw [HWSD.out]; unfold wsOf; rw [if_pos hn0]
        subst hn0
        have HB := hide (show Bag wr tag (K4 w.heap.size (.slice a1 n1 c1) kv (.slice a2' n2' c2') hv (.slice none 0 0) (castN ws) (.slice none 0 0) (castN (inP pt ws))) from by rw [hw0']; exact HB.out)
        generalize wr = wk at *
        go_upto_region 64 with (first
          | (at_builtin; go_must (refine wpList_appR _ rfl (.tmp 241) (.tmp 244) 49 45 rfl i4 _ 4 88 Yba.underlying45 hi4 hw0 hw1 hw2 rfl (by decide) (by decide) rfl (HB.out.keep ((Tch.refl Non wk).alloc _) |>.say 1) rfl rfl (src_new wk 49 (kcell (.slice none 0 0))) (kcell_one rfl) (by omega) (by simp only [World.size_alloc]; omega) ?_; intro v' w5 ho tt hf; obtain ⟨a5, n5, c5, hv'⟩ := row_slice ho; subst hv'; obtain ⟨tag5, hb5, ht5⟩ := K4.put1 (l := kv ++ [.slice none 0 0]) (HB.out.keep ((Tch.refl Non wk).alloc _)) tt (by rw [kcells_snoc, List.length_append]; exact ho) hf; have HB5 := hide hb5; have HT5 := hide (HT.out.trans ((TB.keep ((Tch.refl Non wk).alloc _)).trans ht5)); have hsz5 := HT5.out.tch.size; clear hb5 ht5 ho tt hf; simp only [Act.put, List.setIfInBounds_toArray, List.set_cons_zero, List.set_cons_succ]))
          | fail)
        clear HB HT
        have h24 : ¬ 2 ≤ (inP pt ws).length := by rw [hw0']; simp [inP]
        have HJ := hide (HNX.out w5 tag5 _ _ _ _ _ _ hv _ _ HB5.out HT5.out (.inr ⟨h24, rfl⟩))
        go_wp2_with fail
        go_roundw
        case rel => exact ⟨k + 1, by omega, by go_num, HJ.out⟩
        case measure => simp [intOf]; omega
      · have hnp : 0 < nn := by omega
        have e2 : decide ((nn : Int) > 0) = true := by simp; omega
        have e2' : decide (0 < (nn : Int)) = true := by simp; omega
        generalize wr = wk at *
        have hwsn : ws = l.map (fun x => x % nn) := by rw [HWSD.out]; unfold wsOf; rw [if_neg hn0]
        have HJ0 := hide (show ∃ tagq a3 n3 c3 a4 n4 c4, Value.slice none 0 0 = .slice a3 n3 c3 ∧ Value.slice none 0 0 = .slice a4 n4 c4 ∧ Bag wk tagq (K4 w.heap.size (.slice a1 n1 c1) kv (.slice a2' n2' c2') hv (.slice a3 n3 c3) (castN (ws.take 0)) (.slice a4 n4 c4) (castN (inP pt (ws.take 0)))) ∧ TB tag wk tagq wk from ⟨tag, none, 0, 0, none, 0, 0, rfl, rfl, HB.out, HT.out⟩)
        have HWN := hide hwsn
        clear HB HT hwsn
        go_wp2_with fail
        go_loopw [219, 30, 31] (fun t v30 v31 wq => ∃ j : Nat, j ≤ ln ∧ t = .int .i64 (j : Int) ∧ ∃ tagq a3 n3 c3 a4 n4 c4, v30 = .slice a3 n3 c3 ∧ v31 = .slice a4 n4 c4 ∧ Bag wq tagq (K4 w.heap.size (.slice a1 n1 c1) kv (.slice a2' n2' c2') hv (.slice a3 n3 c3) (castN (ws.take j)) (.slice a4 n4 c4) (castN (inP pt (ws.take j)))) ∧ TB tag wk tagq wq) (fun t _ _ _ => ln - (intOf t).toNat)
        case atStart => exact ⟨0, Nat.zero_le _, rfl, HJ0.out⟩
        case round =>
          clear HJ0 ck
          obtain ⟨j, hj, rfl, tagq, a3, n3, c3, a4, n4, c4, rfl, rfl, hb, ht⟩ := hrel
          have HB := hide hb
          have HT := hide ht
          have hszq := ht.tch.size
          clear hb ht
          by_cases hjl : j < ln
          · obtain ⟨y, hy⟩ : ∃ y, l[j]? = some y := ⟨l[j]'(by omega), List.getElem?_eq_getElem _⟩
            have hwj : ws[j]? = some (y % nn) := by rw [HWN.out, List.getElem?_map, hy]; rfl
            have hyn : y % nn < nn := Nat.mod_lt _ hnp
            have hy255 := HBY.out y (List.mem_of_getElem? hy)
            have HTN := hide (Cm.TB.toNon (HT0.out.trans HT.out))
            obtain ⟨g8, o8, rfl, cy⟩ := Src.at' (Kn.Src.keep HSR.out HTN.out) (castN_get hy)
            obtain ⟨x, hxd⟩ : ∃ x, x = y % nn := ⟨_, rfl⟩
            have hm1 : Int.tmod (y : Int) (nn : Int) = (x : Int) := by rw [hxd]; rfl
            have hm2 : (y : Int) % (nn : Int) = (x : Int) := by rw [hxd]; rfl
            have hxn : x < nn := by rw [hxd]; exact hyn
            rw [← hxd] at hwj
            have hnz : ¬ ((nn : Int) = 0) := by omega
            obtain ⟨bp, hbp⟩ : ∃ b, pt[x]? = some b := ⟨pt[x]'(by rw [HP.out.len]; exact hxn), List.getElem?_eq_getElem _⟩
            have HCP := hide (HP.out.at_ x bp hbp)
            have hin := inP_snoc (pt := pt) hwj
            rw [ptAt_of hbp] at hin
            have hwt : ws.take (j + 1) = ws.take j ++ [x] := by rw [List.take_add_one, hwj]; rfl
            have hil := inP_len pt ws j
            have HIN := hide hin
            have HWT := hide hwt
            have hwjl : (ws.take j).length ≤ 64 := by rw [List.length_take]; omega
            have e5 : (j : Int) < (ln : Int) := by omega
            have e6 : (x : Int) < (nn : Int) := by omega
            clear hy hwj hyn hxd hbp hin hwt
            go_upto_region 60 with (first
              | (at_builtin; go_must (refine wpList_app (v := .slice a3 n3 c3) _ rfl (.tmp 228) (.tmp 230) .i32 21 23 rfl i0 4 (by decide) Yba.underlying23 hi0 hz0 hz1 hz2 rfl (Own.alloc (HB.out.say 3) _) rfl (Src.one .i32 21 wr (x : Int) 1) (by rw [castN_len]; simp only [List.length_cons, List.length_nil]; omega) (by simp only [World.size_alloc]; omega) ?_; intro v' w5 ho tt hf; obtain ⟨a5, n5, c5, hv'⟩ := ho.slice; subst hv'; obtain ⟨tag5, hb5, ht5⟩ := K4.put3 (HB.out.keep ((Tch.refl Non wr).alloc _)) tt ho hf; have HB5 := hide hb5; have HT5 := hide (HT.out.trans ((TB.keep ((Tch.refl Non wr).alloc _)).trans ht5)); clear hb5 ht5 ho tt hf; simp only [Act.put, List.setIfInBounds_toArray, List.set_cons_zero, List.set_cons_succ]))
              | fail)
            clear HB HT cy
            have hsz5 := HT5.out.tch.size
            have cp : w5.cell? ⟨gp, x, none⟩ = some (.bool bp) := (Cm.TB.toNon (HT0.out.trans HT5.out)).cell HCP.out (fun h => h)
            cases bp with
            | false =>
              have HJ := hide (show Bag w5 tag5 (K4 w.heap.size (.slice a1 n1 c1) kv (.slice a2' n2' c2') hv (.slice a5 n5 c5) (castN (ws.take (j + 1))) (.slice a4 n4 c4) (castN (inP pt (ws.take (j + 1))))) from by
                rw [HIN.out, HWT.out, castN_snoc]
                simpa using HB5.out)
              go_wp2_with fail
              go_roundw
              case rel => exact ⟨j + 1, by omega, by go_num, tag5, _, _, _, _, _, _, rfl, rfl, HJ.out, HT5.out⟩
              case measure => simp [intOf]; omega
            | true =>
              go_upto_region 62 with (first
                | (at_builtin; go_must (refine wpList_app (v := .slice a4 n4 c4) _ rfl (.tmp 236) (.tmp 238) .i32 21 23 rfl i0 4 (by decide) Yba.underlying23 hi0 hz0 hz1 hz2 rfl (Own.alloc (HB5.out.say 4) _) rfl (Src.one .i32 21 w5 (x : Int) 1) (by rw [castN_len]; simp only [List.length_cons, List.length_nil]; omega) (by simp only [World.size_alloc]; omega) ?_; intro v' w6 ho tt hf; obtain ⟨a6, n6, c6, hv'⟩ := ho.slice; subst hv'; obtain ⟨tag6, hb6, ht6⟩ := K4.put4 (HB5.out.keep ((Tch.refl Non w5).alloc _)) tt ho hf; have HJ := hide (show Bag w6 tag6 (K4 w.heap.size (.slice a1 n1 c1) kv (.slice a2' n2' c2') hv (.slice a5 n5 c5) (castN (ws.take (j + 1))) (.slice a6 n6 c6) (castN (inP pt (ws.take (j + 1))))) from (by rw [HIN.out, if_pos rfl, HWT.out, castN_snoc, castN_snoc]; exact hb6)); have HT6 := hide (HT5.out.trans ((TB.keep ((Tch.refl Non w5).alloc _)).trans ht6)); clear hb6 ht6 ho tt hf; simp only [Act.put, List.setIfInBounds_toArray, List.set_cons_zero, List.set_cons_succ]))
                | fail)
              go_wp2_with fail
              go_roundw
              case rel => exact ⟨j + 1, by omega, by go_num, tag6, _, _, _, _, _, _, rfl, rfl, HJ.out, HT6.out⟩
              case measure => simp [intOf]; omega
          · obtain rfl : j = ln := by omega
            have hwl : ws.take j = ws := List.take_of_length_le (by rw [HWN.out, List.length_map]; omega)
            rw [hwl] at HB
            go_upto_region 64 with (first
              | (at_builtin; go_must (refine wpList_appR _ rfl (.tmp 241) (.tmp 244) 49 45 rfl i4 _ 4 88 Yba.underlying45 hi4 hw0 hw1 hw2 rfl (by decide) (by decide) rfl (HB.out.keep ((Tch.refl Non wr).alloc _) |>.say 1) rfl rfl (src_new wr 49 (kcell (.slice a3 n3 c3))) (kcell_one rfl) (by omega) (by simp only [World.size_alloc]; omega) ?_; intro v' w5 ho tt hf; obtain ⟨a5, n5, c5, hv'⟩ := row_slice ho; subst hv'; obtain ⟨tag5, hb5, ht5⟩ := K4.put1 (l := kv ++ [.slice a3 n3 c3]) (HB.out.keep ((Tch.refl Non wr).alloc _)) tt (by rw [kcells_snoc, List.length_append]; exact ho) hf; have HB5 := hide hb5; have HT5 := hide (HT.out.trans ((TB.keep ((Tch.refl Non wr).alloc _)).trans ht5)); have hsz5 := HT5.out.tch.size; clear hb5 ht5 ho tt hf; simp only [Act.put, List.setIfInBounds_toArray, List.set_cons_zero, List.set_cons_succ]))
              | fail)
            clear HB HT
            have hn4 : (inP pt ws).length = n4 := by
              have := (show Own .i32 21 w5 w.heap.size (.slice a4 n4 c4) (castN (inP pt ws)) from HB5.out.say 4).len
              rw [castN_len] at this
              exact this
            by_cases h24 : 2 ≤ n4
            · have e9 : decide (2 ≤ (n4 : Int)) = true := by simp; omega
              have e9' : decide ((n4 : Int) ≥ 2) = true := by simp; omega
              go_upto_region 66 with (first
                | (at_builtin; go_must (refine wpList_appR _ rfl (.tmp 249) (.tmp 251) 23 46 rfl i5 _ 1 24 Yba.underlying46 hi5 hv0 hv1 hv2 rfl (by decide) (by decide) rfl (HB5.out.keep ((Tch.refl Non w5).alloc _) |>.say 2) rfl rfl (src_new w5 23 [.slice a4 n4 c4]) (by intro u hu; have e : u = .slice a4 n4 c4 := (by simpa using hu); subst e; rfl) (by omega) (by simp only [World.size_alloc]; omega) ?_; intro v' w6 ho tt hf; obtain ⟨a6, n6, c6, hv'⟩ := row_slice ho; subst hv'; obtain ⟨tag6, hb6, ht6⟩ := K4.put2 (l := hv ++ [.slice a4 n4 c4]) (HB5.out.keep ((Tch.refl Non w5).alloc _)) tt (by rw [List.length_append]; exact ho) hf; have HJ := hide (HNX.out w6 tag6 _ _ _ _ _ _ (hv ++ [.slice a4 n4 c4]) _ _ hb6 (HT5.out.trans ((TB.keep ((Tch.refl Non w5).alloc _)).trans ht6)) (.inl ⟨(by rw [hn4]; exact h24), rfl⟩)); clear hb6 ht6 ho tt hf; simp only [Act.put, List.setIfInBounds_toArray, List.set_cons_zero, List.set_cons_succ]))
                | fail)
              go_wp2_with fail
              go_roundw
              case rel => exact ⟨k + 1, by omega, by go_num, HJ.out⟩
              case measure => simp [intOf]; omega
            · have e9 : decide (2 ≤ (n4 : Int)) = false := by simp; omega
              have e9' : decide ((n4 : Int) ≥ 2) = false := by simp; omega
              have HJ := hide (HNX.out w5 tag5 _ _ _ _ _ _ hv _ _ HB5.out HT5.out (.inr ⟨(by rw [hn4]; exact h24), rfl⟩))
              go_wp2_with fail
              go_roundw
              case rel => exact ⟨k + 1, by omega, by go_num, HJ.out⟩
              case measure => simp [intOf]; omega
    · obtain rfl : n2 = k := by omega
      rw [List.take_of_length_le (by rw [List.length_map, HKL.out]; exact Nat.le_refl _)] at hkl hkg hhl hhg
      have HE := hide (show KQ w pt (kb.map (wsOf nn)) (.slice a1 n1 c1) (.slice a2' n2' c2') wr from ⟨tag, a1, n1, c1, a2', n2', c2', kv, hv, rfl, rfl, hb, ht, hkl, hkg, hhl, hhg⟩)
      clear hb ht hkl hkg hhl hhg
      go_wp2_with fail
      exact HK.out _ _ _ _ _ _ _ _ _ _ _ _ _ _ _ _ _ _ _ _ _ _ _ _ _ _ _ _ _ _ _ _ _ _ _ _ _ _ _ _ _ _ _ _ _ _ _ _ _ _ a1 a2' n1 c1 n2' c2' wr HE.out
end Go.Proofs.Ybulkaxc.Law
