/-
  LawS0093CClosure (4): the keys' lengths.
-/
import Derived.Test.YbulkaxcCp
import Derived.Test.YbulkaxcCut2
namespace Go.Proofs.Ybulkaxc.Law
open Go Go.RowKit Go.Proofs.Ybulkaxc.M2 Go.Proofs.Ybulkaxc.Cm Go.Proofs.Ybulkaxc.Kn Go.Proofs.Ybulkaxc.Hb Go.Proofs.Ybulkaxc.Pl2 Go.Proofs.Ybulkaxc.Tj Go.Proofs.Ybulkaxc.Hc Go.Proofs.Ybulkaxc.Mx Go.Proofs.Ybulkaxc.Cut2
set_option linter.unusedVariables false
set_option linter.unusedSimpArgs false
set_option maxRecDepth 100000 in
set_option maxHeartbeats 8000000 in
theorem loop3 (d0 d1 d3 d4 d5 d6 d7 d8 d9 d10 d11 d12 d13 d14 d15 d16 d17 d18 d19 d20 d21 d22 d23 d24 d25 d26 d27 d28 d29 d30 d31 d32 d33 d34 d35 d36 d37 d38 d39 d40 d41 d42 d43 d44 d45 d46 d47 d48 d49 d50 d51 d52 d53 d54 d55 d56 d57 d58 d59 d60 d61 d62 d63 d64 d65 d66 d67 d68 d69 d70 d71 d72 d73 d74 d75 d76 d77 d78 d79 d80 d81 d82 d83 d84 d85 d86 d87 d88 d89 d90 d91 d92 d93 d94 d95 d96 d97 d98 d99 d100 d101 d102 d103 d104 d105 d106 d107 d108 d109 d110 d111 d112 d113 d114 d115 d116 d117 d118 d119 d120 d121 d122 d123 d124 d125 d126 d127 d128 d129 d130 d131 d132 d133 d134 d135 d136 d137 d138 d139 d140 d141 d142 d143 d144 d145 d146 d147 d148 d149 d150 d151 d152 d153 d154 d155 d156 d157 d158 d159 d160 d161 d162 d163 d164 d165 d166 d167 d168 d169 d170 d171 d172 d173 d174 d175 d176 d177 d178 d179 d180 d181 d182 d183 d184 d185 d186 d187 d188 d189 d190 d191 d192 d193 d194 d195 d196 d197 d198 d199 d200 d201 d202 d203 d204 d205 d206 d207 d208 d209 d210 d211 d212 d213 d214 d215 d216 d217 d218 d219 d220 d221 d222 d223 d224 d225 d226 d227 d228 d229 d230 d231 d232 d233 d234 d235 d236 d237 d238 d239 d240 d241 d242 d243 d244 d245 d246 d247 d248 d249 d250 d251 d252 d253 d254 d255 d256 d257 d258 d259 d260 d261 d262 d263 d264 d265 d266 d267 d268 d269 d270 d271 d272 d273 d274 d275 d276 d277 d278 d279 d280 d281 d282 d283 d284 d285 d286 d287 d288 d289 d290 d291 d292 d293 d294 d295 d296 d297 d298 d299 d300 d301 d302 d303 d304 d305 d306 d307 d308 d309 d310 d311 d312 d313 d314 d315 d316 d317 d318 d319 d320 d321 d322 d323 d324 d325 d326 d327 d328 d329 d330 d331 d332 d333 d334 d335 d336 d337 d338 d339 d340 d341 d342 d343 d344 d345 d346 d347 d348 d349 d350 d351 d352 d353 d354 d355 d356 d357 d358 d359 d360 d361 d362 d363 d364 d365 d366 d367 d368 d369 d370 d371 d372 d373 d374 d375 d376 d377 d378 d379 d380 d381 d382 d383 d384 d385 d386 d387 d388 d389 d390 d391 d392 d393 d394 d395 d396 d397 d398 d399 d400 d401 d402 d403 d404 d405 d406 d407 d408 d409 d410 d411 d412 d413 d414 d415 d416 d417 d418 d419 d420 d421 d422 d423 d424 d425 d426 d427 d428 d429 d430 d431 d432 d433 d434 d435 d436 d437 d438 d439 d440 d441 d442 d443 d444 : Value) (w : World) (n2 : Nat) (a2 : Option Addr) (c2 : Nat) (kb : List (List Nat)) (hKS : Ksrc w (.slice a2 n2 c2) kb) (hn2 : n2 ≤ 64) (hmx : ∀ l ∈ kb, l.length ≤ maxLen)
    (K1 K2 : Act → World → Prop) (hK2 : ∀ a w', Code.wp Yba.prog (snd (fst ((Yba.f4.body.bind (tailAt 3)).getD .skip))) (Exit.then K1 (LPost w)) a w' → K2 a w')
    (hK1 : ∀ (x9 x63 x64 x65 x66 x67 x68 x69 x70 x71 x72 x73 x74 : Value), (∀ l ∈ kb, l.length ≤ 64) → K1 ⟨#[d0, d1, .slice a2 n2 c2, d3, d4, d5, d6, d7, d8, x9, d10, d11, d12, d13, d14, d15, d16, d17, d18, d19, d20, d21, d22, d23, d24, d25, d26, d27, d28, d29, d30, d31, d32, d33, d34, d35, d36, d37, d38, d39, d40, d41, d42, d43, d44, d45, d46, d47, d48, d49, d50, d51, d52, d53, d54, d55, d56, d57, d58, d59, d60, d61, d62, x63, x64, x65, x66, x67, x68, x69, x70, x71, x72, x73, x74, d75, d76, d77, d78, d79, d80, d81, d82, d83, d84, d85, d86, d87, d88, d89, d90, d91, d92, d93, d94, d95, d96, d97, d98, d99, d100, d101, d102, d103, d104, d105, d106, d107, d108, d109, d110, d111, d112, d113, d114, d115, d116, d117, d118, d119, d120, d121, d122, d123, d124, d125, d126, d127, d128, d129, d130, d131, d132, d133, d134, d135, d136, d137, d138, d139, d140, d141, d142, d143, d144, d145, d146, d147, d148, d149, d150, d151, d152, d153, d154, d155, d156, d157, d158, d159, d160, d161, d162, d163, d164, d165, d166, d167, d168, d169, d170, d171, d172, d173, d174, d175, d176, d177, d178, d179, d180, d181, d182, d183, d184, d185, d186, d187, d188, d189, d190, d191, d192, d193, d194, d195, d196, d197, d198, d199, d200, d201, d202, d203, d204, d205, d206, d207, d208, d209, d210, d211, d212, d213, d214, d215, d216, d217, d218, d219, d220, d221, d222, d223, d224, d225, d226, d227, d228, d229, d230, d231, d232, d233, d234, d235, d236, d237, d238, d239, d240, d241, d242, d243, d244, d245, d246, d247, d248, d249, d250, d251, d252, d253, d254, d255, d256, d257, d258, d259, d260, d261, d262, d263, d264, d265, d266, d267, d268, d269, d270, d271, d272, d273, d274, d275, d276, d277, d278, d279, d280, d281, d282, d283, d284, d285, d286, d287, d288, d289, d290, d291, d292, d293, d294, d295, d296, d297, d298, d299, d300, d301, d302, d303, d304, d305, d306, d307, d308, d309, d310, d311, d312, d313, d314, d315, d316, d317, d318, d319, d320, d321, d322, d323, d324, d325, d326, d327, d328, d329, d330, d331, d332, d333, d334, d335, d336, d337, d338, d339, d340, d341, d342, d343, d344, d345, d346, d347, d348, d349, d350, d351, d352, d353, d354, d355, d356, d357, d358, d359, d360, d361, d362, d363, d364, d365, d366, d367, d368, d369, d370, d371, d372, d373, d374, d375, d376, d377, d378, d379, d380, d381, d382, d383, d384, d385, d386, d387, d388, d389, d390, d391, d392, d393, d394, d395, d396, d397, d398, d399, d400, d401, d402, d403, d404, d405, d406, d407, d408, d409, d410, d411, d412, d413, d414, d415, d416, d417, d418, d419, d420, d421, d422, d423, d424, d425, d426, d427, d428, d429, d430, d431, d432, d433, d434, d435, d436, d437, d438, d439, d440, d441, d442, d443, d444], []⟩ w) :
    Code.wp Yba.prog (fst (fst ((Yba.f4.body.bind (tailAt 3)).getD .skip))) (Exit.then K2 (Exit.then K1 (LPost w))) ⟨#[d0, d1, .slice a2 n2 c2, d3, d4, d5, d6, d7, d8, d9, d10, d11, d12, d13, d14, d15, d16, d17, d18, d19, d20, d21, d22, d23, d24, d25, d26, d27, d28, d29, d30, d31, d32, d33, d34, d35, d36, d37, d38, d39, d40, d41, d42, d43, d44, d45, d46, d47, d48, d49, d50, d51, d52, d53, d54, d55, d56, d57, d58, d59, d60, d61, d62, d63, d64, d65, d66, d67, d68, d69, d70, d71, d72, d73, d74, d75, d76, d77, d78, d79, d80, d81, d82, d83, d84, d85, d86, d87, d88, d89, d90, d91, d92, d93, d94, d95, d96, d97, d98, d99, d100, d101, d102, d103, d104, d105, d106, d107, d108, d109, d110, d111, d112, d113, d114, d115, d116, d117, d118, d119, d120, d121, d122, d123, d124, d125, d126, d127, d128, d129, d130, d131, d132, d133, d134, d135, d136, d137, d138, d139, d140, d141, d142, d143, d144, d145, d146, d147, d148, d149, d150, d151, d152, d153, d154, d155, d156, d157, d158, d159, d160, d161, d162, d163, d164, d165, d166, d167, d168, d169, d170, d171, d172, d173, d174, d175, d176, d177, d178, d179, d180, d181, d182, d183, d184, d185, d186, d187, d188, d189, d190, d191, d192, d193, d194, d195, d196, d197, d198, d199, d200, d201, d202, d203, d204, d205, d206, d207, d208, d209, d210, d211, d212, d213, d214, d215, d216, d217, d218, d219, d220, d221, d222, d223, d224, d225, d226, d227, d228, d229, d230, d231, d232, d233, d234, d235, d236, d237, d238, d239, d240, d241, d242, d243, d244, d245, d246, d247, d248, d249, d250, d251, d252, d253, d254, d255, d256, d257, d258, d259, d260, d261, d262, d263, d264, d265, d266, d267, d268, d269, d270, d271, d272, d273, d274, d275, d276, d277, d278, d279, d280, d281, d282, d283, d284, d285, d286, d287, d288, d289, d290, d291, d292, d293, d294, d295, d296, d297, d298, d299, d300, d301, d302, d303, d304, d305, d306, d307, d308, d309, d310, d311, d312, d313, d314, d315, d316, d317, d318, d319, d320, d321, d322, d323, d324, d325, d326, d327, d328, d329, d330, d331, d332, d333, d334, d335, d336, d337, d338, d339, d340, d341, d342, d343, d344, d345, d346, d347, d348, d349, d350, d351, d352, d353, d354, d355, d356, d357, d358, d359, d360, d361, d362, d363, d364, d365, d366, d367, d368, d369, d370, d371, d372, d373, d374, d375, d376, d377, d378, d379, d380, d381, d382, d383, d384, d385, d386, d387, d388, d389, d390, d391, d392, d393, d394, d395, d396, d397, d398, d399, d400, d401, d402, d403, d404, d405, d406, d407, d408, d409, d410, d411, d412, d413, d414, d415, d416, d417, d418, d419, d420, d421, d422, d423, d424, d425, d426, d427, d428, d429, d430, d431, d432, d433, d434, d435, d436, d437, d438, d439, d440, d441, d442, d443, d444], []⟩ w := by
  conv => arg 2; whnf
  conv at hK2 => enter [a, w', 1, 2]; whnf
  have HK := hide hK1
  clear hK1
  have HKS := hide hKS
  have HMX := hide hmx
  have hkl := hKS.len
  have HKL := hide hkl
  clear hKS hmx hkl
  have HX0 := hide (show ∀ i, i < 0 → ∀ l, kb[i]? = some l → l.length ≤ 64 from fun i hi => by omega)
  go_wp2_with fail
  go_loopw [65, 8] (fun t v8 wq => ∃ k : Nat, k ≤ n2 ∧ t = .int .i64 (k : Int) ∧ v8 = d8 ∧ wq = w ∧ ∀ i, i < k → ∀ l, kb[i]? = some l → l.length ≤ 64) (fun t _ _ => n2 - (intOf t).toNat)
  case atStart => exact ⟨0, Nat.zero_le _, rfl, rfl, rfl, HX0.out⟩
  case round =>
    clear HX0
    obtain ⟨k, hk, rfl, rfl, hwr, hx⟩ := hrel
    subst hwr
    by_cases hlt : k < n2
    · obtain ⟨l, hl⟩ : ∃ l, kb[k]? = some l := ⟨kb[k]'(by rw [HKL.out]; exact hlt), List.getElem?_eq_getElem _⟩
      have hm := HMX.out l (List.mem_of_getElem? hl)
      obtain ⟨g7, o7, n7, c7, a7, c7', e7, ck, csr⟩ := HKS.out.rd k l hl
      cases e7
      have e1 : (k : Int) < (n2 : Int) := by omega
      have HX1 := hide (fun (h : l.length ≤ 64) => (show ∀ i, i < k + 1 → ∀ l, kb[i]? = some l → l.length ≤ 64 from fun i hi l' hl' => by
        by_cases e : i = k
        · subst e
          rw [hl] at hl'
          cases hl'
          exact h
        · exact hx i (by omega) l' hl'))
      clear hx csr hl
      unfold maxLen at hm
      generalize l.length = ln at *
      by_cases h64 : ln ≤ 64
      · have e2 : decide ((ln : Int) > 64) = false := by simp; omega
        have e2' : decide (64 < (ln : Int)) = false := by simp; omega
        have HX2 := hide (HX1.out h64)
        clear HX1
        go_wp2_with fail
        go_roundw
        case rel => exact ⟨k + 1, by omega, by go_num, by first | rfl | trivial, by first | rfl | trivial, HX2.out⟩
        case measure => simp [intOf]; omega
      · have e2 : decide ((ln : Int) > 64) = true := by simp; omega
        have e2' : decide (64 < (ln : Int)) = true := by simp; omega
        clear HX1
        go_wp2_with fail
        go_ret
        exact ⟨rfl, Below.refl _ _⟩
    · obtain rfl : n2 = k := by omega
      have HE := hide (show ∀ l ∈ kb, l.length ≤ 64 from fun l hl => by
        obtain ⟨i, hi⟩ := List.getElem?_of_mem hl
        exact hx i (by rw [← HKL.out]; exact (List.getElem?_eq_some_iff.1 hi).1) l hi)
      clear hx
      go_wp2_with fail
      exact HK.out _ _ _ _ _ _ _ _ _ _ _ _ _ HE.out
end Go.Proofs.Ybulkaxc.Law
