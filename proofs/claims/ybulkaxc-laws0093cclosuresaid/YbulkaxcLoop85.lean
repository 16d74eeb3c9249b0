/-
  LawS0093CClosure (4): the keys' nodes in the matrix.
-/
import Derived.Test.YbulkaxcLb
import Derived.Test.YbulkaxcCut2
namespace Go.Proofs.Ybulkaxc.Law
open Go Go.RowKit Go.Proofs.Ybulkaxc.M2 Go.Proofs.Ybulkaxc.Cm Go.Proofs.Ybulkaxc.Kn Go.Proofs.Ybulkaxc.Hb Go.Proofs.Ybulkaxc.Pl2 Go.Proofs.Ybulkaxc.Tj Go.Proofs.Ybulkaxc.Hc Go.Proofs.Ybulkaxc.Mx Go.Proofs.Ybulkaxc.Cut2
set_option linter.unusedVariables false
set_option linter.unusedSimpArgs false
set_option maxRecDepth 100000 in
set_option maxHeartbeats 8000000 in
theorem loop85 (d0 d1 d2 d3 d4 d5 d6 d7 d8 d9 d11 d12 d13 d14 d15 d16 d17 d18 d19 d20 d21 d22 d23 d24 d25 d26 d28 d29 d30 d31 d32 d33 d34 d35 d36 d37 d38 d39 d41 d42 d43 d44 d45 d46 d47 d48 d49 d50 d51 d52 d53 d54 d55 d56 d57 d58 d59 d60 d61 d62 d63 d64 d65 d66 d67 d68 d69 d70 d71 d72 d73 d74 d75 d76 d77 d78 d79 d80 d81 d82 d83 d84 d85 d86 d87 d88 d89 d90 d91 d92 d93 d94 d95 d96 d97 d98 d99 d100 d101 d102 d103 d104 d105 d106 d107 d108 d109 d110 d111 d112 d113 d114 d115 d116 d117 d118 d119 d120 d121 d122 d123 d124 d125 d126 d127 d128 d129 d130 d131 d132 d133 d134 d135 d136 d137 d138 d139 d140 d141 d142 d143 d144 d145 d146 d147 d148 d149 d150 d151 d152 d153 d154 d155 d156 d157 d158 d159 d160 d161 d162 d163 d164 d165 d166 d167 d168 d169 d170 d171 d172 d173 d174 d175 d176 d177 d178 d179 d180 d181 d182 d183 d184 d185 d186 d187 d188 d189 d190 d191 d192 d193 d194 d195 d196 d197 d198 d199 d200 d201 d202 d203 d204 d205 d206 d207 d208 d209 d210 d211 d212 d213 d214 d215 d216 d217 d218 d219 d220 d221 d222 d223 d224 d225 d226 d227 d228 d229 d230 d231 d232 d233 d234 d235 d236 d237 d238 d239 d240 d241 d242 d243 d244 d245 d246 d247 d248 d249 d250 d251 d252 d253 d254 d255 d256 d257 d258 d259 d260 d261 d262 d263 d264 d265 d266 d267 d268 d269 d270 d271 d272 d273 d274 d275 d276 d277 d278 d279 d280 d281 d282 d283 d284 d285 d286 d287 d288 d289 d290 d291 d292 d293 d294 d295 d296 d297 d298 d299 d300 d301 d302 d303 d304 d305 d306 d307 d308 d309 d310 d311 d312 d313 d314 d315 d316 d317 d318 d319 d320 d321 d322 d323 d324 d325 d326 d327 d328 d329 d330 d331 d332 d333 d334 d335 d336 d337 d338 d339 d340 d341 d342 d343 d344 d345 d346 d347 d348 d349 d350 d351 d352 d353 d354 d355 d356 d357 d358 d359 d360 d361 d362 d363 d364 d365 d366 d367 d368 d369 d370 d371 d372 d373 d374 d375 d376 d377 d378 d379 d380 d381 d382 d383 d384 d385 d386 d387 d388 d389 d390 d391 d392 d393 d394 d395 d396 d397 d398 d399 d400 d401 d402 d403 d404 d405 d406 d407 d408 d409 d410 d411 d412 d413 d414 d415 d416 d417 d418 d419 d420 d421 d422 d423 d424 d425 d426 d427 d428 d429 d430 d431 d432 d433 d434 d435 d436 d437 d438 d439 d440 d441 d442 d443 d444 : Value) (w w1 : World) (nn nh N gR : Nat) (rb : Nat → Nat) (aw : Option Addr) (cw : Nat) (A0 : List (Nat × Nat)) (hs : List (List Nat)) (hW : Hw w aw nh hs) (hhs : ∀ l ∈ hs, l.length ≤ 64 ∧ ∀ x ∈ l, x < nn) (hN : N = nn + nh) (hnn : nn ≤ 16) (hnh : nh ≤ 64)
    (hq : Mq w w1 gR N rb (fun a b => (a, b) ∈ A0))
    (K1 K2 : Act → World → Prop) (Q : Exit → Act → World → Prop) (hK2 : ∀ a w', Code.wp Yba.prog (snd (fst ((Yba.f4.body.bind (tailAt 85)).getD .skip))) (Exit.then K1 Q) a w' → K2 a w')
    (hK1 : ∀ (x44 x45 x46 x48 x320 x321 x322 x323 x324 x325 x326 x327 x328 x329 x330 x331 x332 x333 x334 x335 x336 x337 x338 x339 x340 x341 x342 x343 x344 x345 x346 x347 x348 x349 : Value) (wr : World), Mq w wr gR N rb (EE A0 (harcs nn hs)) → K1 ⟨#[d0, d1, d2, d3, d4, d5, d6, d7, d8, d9, .int .i64 (nn : Int), d11, d12, d13, d14, d15, d16, d17, d18, d19, d20, d21, d22, d23, d24, d25, d26, .slice aw nh cw, d28, d29, d30, d31, d32, d33, d34, d35, d36, d37, d38, d39, .slice (some ⟨gR, 0, none⟩) N N, d41, d42, d43, x44, x45, x46, d47, x48, d49, d50, d51, d52, d53, d54, d55, d56, d57, d58, d59, d60, d61, d62, d63, d64, d65, d66, d67, d68, d69, d70, d71, d72, d73, d74, d75, d76, d77, d78, d79, d80, d81, d82, d83, d84, d85, d86, d87, d88, d89, d90, d91, d92, d93, d94, d95, d96, d97, d98, d99, d100, d101, d102, d103, d104, d105, d106, d107, d108, d109, d110, d111, d112, d113, d114, d115, d116, d117, d118, d119, d120, d121, d122, d123, d124, d125, d126, d127, d128, d129, d130, d131, d132, d133, d134, d135, d136, d137, d138, d139, d140, d141, d142, d143, d144, d145, d146, d147, d148, d149, d150, d151, d152, d153, d154, d155, d156, d157, d158, d159, d160, d161, d162, d163, d164, d165, d166, d167, d168, d169, d170, d171, d172, d173, d174, d175, d176, d177, d178, d179, d180, d181, d182, d183, d184, d185, d186, d187, d188, d189, d190, d191, d192, d193, d194, d195, d196, d197, d198, d199, d200, d201, d202, d203, d204, d205, d206, d207, d208, d209, d210, d211, d212, d213, d214, d215, d216, d217, d218, d219, d220, d221, d222, d223, d224, d225, d226, d227, d228, d229, d230, d231, d232, d233, d234, d235, d236, d237, d238, d239, d240, d241, d242, d243, d244, d245, d246, d247, d248, d249, d250, d251, d252, d253, d254, d255, d256, d257, d258, d259, d260, d261, d262, d263, d264, d265, d266, d267, d268, d269, d270, d271, d272, d273, d274, d275, d276, d277, d278, d279, d280, d281, d282, d283, d284, d285, d286, d287, d288, d289, d290, d291, d292, d293, d294, d295, d296, d297, d298, d299, d300, d301, d302, d303, d304, d305, d306, d307, d308, d309, d310, d311, d312, d313, d314, d315, d316, d317, d318, d319, x320, x321, x322, x323, x324, x325, x326, x327, x328, x329, x330, x331, x332, x333, x334, x335, x336, x337, x338, x339, x340, x341, x342, x343, x344, x345, x346, x347, x348, x349, d350, d351, d352, d353, d354, d355, d356, d357, d358, d359, d360, d361, d362, d363, d364, d365, d366, d367, d368, d369, d370, d371, d372, d373, d374, d375, d376, d377, d378, d379, d380, d381, d382, d383, d384, d385, d386, d387, d388, d389, d390, d391, d392, d393, d394, d395, d396, d397, d398, d399, d400, d401, d402, d403, d404, d405, d406, d407, d408, d409, d410, d411, d412, d413, d414, d415, d416, d417, d418, d419, d420, d421, d422, d423, d424, d425, d426, d427, d428, d429, d430, d431, d432, d433, d434, d435, d436, d437, d438, d439, d440, d441, d442, d443, d444], []⟩ wr) :
    Code.wp Yba.prog (fst (fst ((Yba.f4.body.bind (tailAt 85)).getD .skip))) (Exit.then K2 (Exit.then K1 Q)) ⟨#[d0, d1, d2, d3, d4, d5, d6, d7, d8, d9, .int .i64 (nn : Int), d11, d12, d13, d14, d15, d16, d17, d18, d19, d20, d21, d22, d23, d24, d25, d26, .slice aw nh cw, d28, d29, d30, d31, d32, d33, d34, d35, d36, d37, d38, d39, .slice (some ⟨gR, 0, none⟩) N N, d41, d42, d43, d44, d45, d46, d47, d48, d49, d50, d51, d52, d53, d54, d55, d56, d57, d58, d59, d60, d61, d62, d63, d64, d65, d66, d67, d68, d69, d70, d71, d72, d73, d74, d75, d76, d77, d78, d79, d80, d81, d82, d83, d84, d85, d86, d87, d88, d89, d90, d91, d92, d93, d94, d95, d96, d97, d98, d99, d100, d101, d102, d103, d104, d105, d106, d107, d108, d109, d110, d111, d112, d113, d114, d115, d116, d117, d118, d119, d120, d121, d122, d123, d124, d125, d126, d127, d128, d129, d130, d131, d132, d133, d134, d135, d136, d137, d138, d139, d140, d141, d142, d143, d144, d145, d146, d147, d148, d149, d150, d151, d152, d153, d154, d155, d156, d157, d158, d159, d160, d161, d162, d163, d164, d165, d166, d167, d168, d169, d170, d171, d172, d173, d174, d175, d176, d177, d178, d179, d180, d181, d182, d183, d184, d185, d186, d187, d188, d189, d190, d191, d192, d193, d194, d195, d196, d197, d198, d199, d200, d201, d202, d203, d204, d205, d206, d207, d208, d209, d210, d211, d212, d213, d214, d215, d216, d217, d218, d219, d220, d221, d222, d223, d224, d225, d226, d227, d228, d229, d230, d231, d232, d233, d234, d235, d236, d237, d238, d239, d240, d241, d242, d243, d244, d245, d246, d247, d248, d249, d250, d251, d252, d253, d254, d255, d256, d257, d258, d259, d260, d261, d262, d263, d264, d265, d266, d267, d268, d269, d270, d271, d272, d273, d274, d275, d276, d277, d278, d279, d280, d281, d282, d283, d284, d285, d286, d287, d288, d289, d290, d291, d292, d293, d294, d295, d296, d297, d298, d299, d300, d301, d302, d303, d304, d305, d306, d307, d308, d309, d310, d311, d312, d313, d314, d315, d316, d317, d318, d319, d320, d321, d322, d323, d324, d325, d326, d327, d328, d329, d330, d331, d332, d333, d334, d335, d336, d337, d338, d339, d340, d341, d342, d343, d344, d345, d346, d347, d348, d349, d350, d351, d352, d353, d354, d355, d356, d357, d358, d359, d360, d361, d362, d363, d364, d365, d366, d367, d368, d369, d370, d371, d372, d373, d374, d375, d376, d377, d378, d379, d380, d381, d382, d383, d384, d385, d386, d387, d388, d389, d390, d391, d392, d393, d394, d395, d396, d397, d398, d399, d400, d401, d402, d403, d404, d405, d406, d407, d408, d409, d410, d411, d412, d413, d414, d415, d416, d417, d418, d419, d420, d421, d422, d423, d424, d425, d426, d427, d428, d429, d430, d431, d432, d433, d434, d435, d436, d437, d438, d439, d440, d441, d442, d443, d444], []⟩ w1 := by
  conv => arg 2; whnf
  conv at hK2 => enter [a, w', 1, 2]; whnf
  have HK := hide hK1
  clear hK1
  have HQ1 := hide (show Mq w w1 gR N rb (fun a b => (a, b) ∈ A0 ∨ (a, b) ∈ harcs nn (hs.take 0)) from hq.congr (fun a b _ _ => by simp [harcs]))
  have HW := hide hW
  have HHS := hide hhs
  have HN := hide hN
  have hNn : nn ≤ N := by omega
  have hN80 : N ≤ 80 := by omega
  clear hq hW hhs hN
  go_wp2_with fail
  go_loopw [322] (fun t wq => ∃ h : Nat, h ≤ nh ∧ t = .int .i64 (h : Int) ∧ Mq w wq gR N rb (fun a b => (a, b) ∈ A0 ∨ (a, b) ∈ harcs nn (hs.take h))) (fun t _ => nh - (intOf t).toNat)
  case atStart => exact ⟨0, Nat.zero_le _, rfl, HQ1.out⟩
  case round =>
    clear HQ1
    obtain ⟨h, hh, rfl, hq⟩ := hrel
    by_cases hhl : h < nh
    · obtain ⟨l, hl⟩ : ∃ l, hs[h]? = some l := ⟨hs[h]'(by rw [HW.out.len]; exact hhl), List.getElem?_eq_getElem _⟩
      have hlr := HHS.out l (List.mem_of_getElem? hl)
      have HLR := hide hlr.2
      have hll := hlr.1
      obtain ⟨g3, a4, c4, rfl, cw4', src4⟩ := HW.out.at_ h l hl
      have cw4 := hq.tch.cell cw4' (fun h => h)
      have HSRC := hide src4
      have HQ2 := hide (show Mq w wr gR N rb (fun a b => (a, b) ∈ A0 ∨ (a, b) ∈ harcs nn (hs.take h) ∨ (a, b) ∈ Hb.one (nn + h) (l.take 0)) from hq.congr (fun a b _ _ => by simp [Hb.one]))
      have HNX := hide (fun wq (hq : Mq w wq gR N rb (fun a b => (a, b) ∈ A0 ∨ (a, b) ∈ harcs nn (hs.take h) ∨ (a, b) ∈ Hb.one (nn + h) l)) => (show Mq w wq gR N rb (fun a b => (a, b) ∈ A0 ∨ (a, b) ∈ harcs nn (hs.take (h + 1))) from hq.congr (fun a b _ _ => by rw [harcs_take hl, List.mem_append])))
      clear hq hlr src4 hl cw4'
      generalize hln : l.length = ln at *
      have e1 : (h : Int) < (nh : Int) := by omega
      go_wp2_with fail
      go_loopw [332] (fun t wq => ∃ j : Nat, j ≤ ln ∧ t = .int .i64 (j : Int) ∧ Mq w wq gR N rb (fun a b => (a, b) ∈ A0 ∨ (a, b) ∈ harcs nn (hs.take h) ∨ (a, b) ∈ Hb.one (nn + h) (l.take j))) (fun t _ => ln - (intOf t).toNat)
      case atStart => exact ⟨0, Nat.zero_le _, rfl, HQ2.out⟩
      case round =>
        clear HQ2 cw4
        obtain ⟨j, hj, rfl, hq⟩ := hrel
        by_cases hjl : j < ln
        · obtain ⟨x, hx⟩ : ∃ x, l[j]? = some x := ⟨l[j]'(by omega), List.getElem?_eq_getElem _⟩
          have hxn := HLR.out x (List.mem_of_getElem? hx)
          obtain ⟨g5, o5, rfl, cx⟩ := Src.at' (Kn.Src.keep HSRC.out hq.tch) (castN_get hx)
          have hhN : nn + h < N := by have := HN.out; omega
          have cs1 := hq.slot (i := x) (by omega)
          obtain ⟨bb1, cb1, _⟩ := hq.cell (i := x) (j := nn + h) (by omega) hhN
          have zb1 := hq.frozen (i := x) (by omega) (nn + h)
          have q2 := hq.set (P' := fun a b => ((a, b) ∈ A0 ∨ (a, b) ∈ harcs nn (hs.take h) ∨ (a, b) ∈ Hb.one (nn + h) (l.take j)) ∨ (a = x ∧ b = nn + h)) (i := x) (j := nn + h) (by omega) (fun a b _ _ => Iff.rfl)
          have HQ3 := hide q2
          have HOS := hide (Hb.one_snoc (hub := nn + h) hx)
          clear hq q2 hx
          have e2 : (j : Int) < (ln : Int) := by omega
          have e3 : (x : Int) < (N : Int) := by omega
          have e4 : (nn : Int) + (h : Int) < (N : Int) := by omega
          go_upto_region 93 with fail
          generalize wr.setCell ⟨rb x, nn + h, none⟩ (.bool true) = w3 at *
          clear cs1 cb1 zb1 cx
          have cs2 := HQ3.out.slot (i := nn + h) hhN
          obtain ⟨bb2, cb2, _⟩ := HQ3.out.cell (i := nn + h) (j := x) hhN (by omega)
          have zb2 := HQ3.out.frozen (i := nn + h) hhN x
          have HJ := hide (HQ3.out.set (P' := fun a b => (a, b) ∈ A0 ∨ (a, b) ∈ harcs nn (hs.take h) ∨ (a, b) ∈ Hb.one (nn + h) (l.take (j + 1))) (i := nn + h) (j := x) hhN (fun a b _ _ => by
            rw [HOS.out, List.mem_append]
            simp only [List.mem_cons, Prod.mk.injEq, List.not_mem_nil, or_false]
            constructor
            · rintro (h1 | h1 | h1 | h1 | h1)
              · exact .inl (.inl (.inl h1))
              · exact .inl (.inl (.inr (.inl h1)))
              · exact .inl (.inl (.inr (.inr h1)))
              · exact .inl (.inr h1)
              · exact .inr h1
            · rintro (((h1 | h1 | h1) | h1) | h1)
              · exact .inl h1
              · exact .inr (.inl h1)
              · exact .inr (.inr (.inl h1))
              · exact .inr (.inr (.inr (.inl h1)))
              · exact .inr (.inr (.inr (.inr h1)))))
          clear HQ3
          go_wp2_with fail
          go_roundw
          case rel => exact ⟨j + 1, by omega, by go_num, HJ.out⟩
          case measure => simp [intOf]; omega
        · obtain rfl : j = ln := by omega
          rw [show l.take j = l from List.take_of_length_le (by omega)] at hq
          have HJ := hide (HNX.out wr hq)
          clear hq HNX
          go_wp2_with fail
          go_roundw
          case rel => exact ⟨h + 1, by omega, by go_num, HJ.out⟩
          case measure => simp [intOf]; omega
    · obtain rfl : h = nh := by omega
      have hlen := HW.out.len
      rw [show hs.take h = hs from List.take_of_length_le (by omega)] at hq
      have HQ4 := hide (show Mq w wr gR N rb (EE A0 (harcs nn hs)) from hq.congr (fun a b _ _ => by unfold EE; exact Or.comm))
      clear hq hlen
      go_wp2_with fail
      exact HK.out _ _ _ _ _ _ _ _ _ _ _ _ _ _ _ _ _ _ _ _ _ _ _ _ _ _ _ _ _ _ _ _ _ _ wr HQ4.out
end Go.Proofs.Ybulkaxc.Law
