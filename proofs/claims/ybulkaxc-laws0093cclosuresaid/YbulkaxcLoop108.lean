/-
  LawS0093CClosure (4): the answer against the closure.
-/
import Derived.Test.YbulkaxcLb
import Derived.Test.YbulkaxcCut2
namespace Go.Proofs.Ybulkaxc.Law
open Go Go.RowKit Go.Proofs.Ybulkaxc.M2 Go.Proofs.Ybulkaxc.Cm Go.Proofs.Ybulkaxc.Kn Go.Proofs.Ybulkaxc.Hb Go.Proofs.Ybulkaxc.Pl2 Go.Proofs.Ybulkaxc.Tj Go.Proofs.Ybulkaxc.Hc Go.Proofs.Ybulkaxc.Mx Go.Proofs.Ybulkaxc.Cut2
set_option linter.unusedVariables false
set_option linter.unusedSimpArgs false
set_option maxRecDepth 100000 in
set_option maxHeartbeats 8000000 in
theorem loop108 (d0 d1 d2 d3 d4 d5 d6 d7 d8 d9 d11 d12 d13 d14 d15 d16 d17 d18 d19 d20 d21 d23 d24 d25 d26 d27 d28 d29 d30 d31 d32 d33 d34 d35 d36 d37 d39 d41 d42 d43 d44 d45 d46 d47 d48 d49 d50 d51 d52 d53 d54 d55 d56 d57 d58 d59 d60 d61 d62 d63 d64 d65 d66 d67 d68 d69 d70 d71 d72 d73 d74 d75 d76 d77 d78 d79 d80 d81 d82 d83 d84 d85 d86 d87 d88 d89 d90 d91 d92 d93 d94 d95 d96 d97 d98 d99 d100 d101 d102 d103 d104 d105 d106 d107 d108 d109 d110 d111 d112 d113 d114 d115 d116 d117 d118 d119 d120 d121 d122 d123 d124 d125 d126 d127 d128 d129 d130 d131 d132 d133 d134 d135 d136 d137 d138 d139 d140 d141 d142 d143 d144 d145 d146 d147 d148 d149 d150 d151 d152 d153 d154 d155 d156 d157 d158 d159 d160 d161 d162 d163 d164 d165 d166 d167 d168 d169 d170 d171 d172 d173 d174 d175 d176 d177 d178 d179 d180 d181 d182 d183 d184 d185 d186 d187 d188 d189 d190 d191 d192 d193 d194 d195 d196 d197 d198 d199 d200 d201 d202 d203 d204 d205 d206 d207 d208 d209 d210 d211 d212 d213 d214 d215 d216 d217 d218 d219 d220 d221 d222 d223 d224 d225 d226 d227 d228 d229 d230 d231 d232 d233 d234 d235 d236 d237 d238 d239 d240 d241 d242 d243 d244 d245 d246 d247 d248 d249 d250 d251 d252 d253 d254 d255 d256 d257 d258 d259 d260 d261 d262 d263 d264 d265 d266 d267 d268 d269 d270 d271 d272 d273 d274 d275 d276 d277 d278 d279 d280 d281 d282 d283 d284 d285 d286 d287 d288 d289 d290 d291 d292 d293 d294 d295 d296 d297 d298 d299 d300 d301 d302 d303 d304 d305 d306 d307 d308 d309 d310 d311 d312 d313 d314 d315 d316 d317 d318 d319 d320 d321 d322 d323 d324 d325 d326 d327 d328 d329 d330 d331 d332 d333 d334 d335 d336 d337 d338 d339 d340 d341 d342 d343 d344 d345 d346 d347 d348 d349 d350 d351 d352 d353 d354 d355 d356 d357 d358 d359 d360 d361 d362 d363 d364 d365 d366 d367 d368 d369 d370 d371 d372 d373 d374 d375 d376 d377 d378 d379 d380 d381 d382 d383 d384 d385 d386 d387 d388 d389 d390 d391 d392 d393 d394 d395 d396 d397 d398 d399 d400 d401 d402 d403 d404 d405 d406 d407 d408 d409 d410 d411 d412 d413 d414 d415 d416 d417 d418 d419 d420 d421 d422 d423 d424 d425 d426 d427 d428 d429 d430 d431 d432 d433 d434 d435 d436 d437 d438 d439 d440 d441 d442 d443 d444 : Value) (w w1 : World) (nn N gR gp gc : Nat) (rb : Nat → Nat) (E : Nat → Nat → Prop) (pt cl : List Bool) (hP : Pb w gp nn pt) (hC : Pb w gc nn cl) (hcl : ∀ u, u < nn → ∃ b : Bool, cl[u]? = some b ∧ (b = true ↔ Want E nn pt u)) (hNn : nn ≤ N) (hN80 : N ≤ 80)
    (hq : Mq w w1 gR N rb (Plus E))
    (K1 K2 : Act → World → Prop) (Q : Exit → Act → World → Prop) (hK2 : ∀ a w', Code.wp Yba.prog (snd (fst ((Yba.f4.body.bind (tailAt 108)).getD .skip))) (Exit.then K1 Q) a w' → K2 a w')
    (hK1 : ∀ (x8 x52 x53 x54 x386 x387 x388 x389 x390 x391 x392 x393 x394 x395 x396 x397 x398 x399 x400 x401 x402 x403 x404 x405 x406 x407 x408 x409 x410 x411 x412 x413 x414 x415 x416 x417 x418 x419 x420 x421 x422 x423 x424 x425 x426 x427 x428 x429 x430 x431 x432 x433 x434 x435 x436 x437 x438 x439 x440 x441 x442 x443 x444 : Value), K1 ⟨#[d0, d1, d2, d3, d4, d5, d6, d7, x8, d9, .int .i64 (nn : Int), d11, d12, d13, d14, d15, d16, d17, d18, d19, d20, d21, .slice (some ⟨gp, 0, none⟩) nn nn, d23, d24, d25, d26, d27, d28, d29, d30, d31, d32, d33, d34, d35, d36, d37, .slice (some ⟨gc, 0, none⟩) nn nn, d39, .slice (some ⟨gR, 0, none⟩) N N, d41, d42, d43, d44, d45, d46, d47, d48, d49, d50, d51, x52, x53, x54, d55, d56, d57, d58, d59, d60, d61, d62, d63, d64, d65, d66, d67, d68, d69, d70, d71, d72, d73, d74, d75, d76, d77, d78, d79, d80, d81, d82, d83, d84, d85, d86, d87, d88, d89, d90, d91, d92, d93, d94, d95, d96, d97, d98, d99, d100, d101, d102, d103, d104, d105, d106, d107, d108, d109, d110, d111, d112, d113, d114, d115, d116, d117, d118, d119, d120, d121, d122, d123, d124, d125, d126, d127, d128, d129, d130, d131, d132, d133, d134, d135, d136, d137, d138, d139, d140, d141, d142, d143, d144, d145, d146, d147, d148, d149, d150, d151, d152, d153, d154, d155, d156, d157, d158, d159, d160, d161, d162, d163, d164, d165, d166, d167, d168, d169, d170, d171, d172, d173, d174, d175, d176, d177, d178, d179, d180, d181, d182, d183, d184, d185, d186, d187, d188, d189, d190, d191, d192, d193, d194, d195, d196, d197, d198, d199, d200, d201, d202, d203, d204, d205, d206, d207, d208, d209, d210, d211, d212, d213, d214, d215, d216, d217, d218, d219, d220, d221, d222, d223, d224, d225, d226, d227, d228, d229, d230, d231, d232, d233, d234, d235, d236, d237, d238, d239, d240, d241, d242, d243, d244, d245, d246, d247, d248, d249, d250, d251, d252, d253, d254, d255, d256, d257, d258, d259, d260, d261, d262, d263, d264, d265, d266, d267, d268, d269, d270, d271, d272, d273, d274, d275, d276, d277, d278, d279, d280, d281, d282, d283, d284, d285, d286, d287, d288, d289, d290, d291, d292, d293, d294, d295, d296, d297, d298, d299, d300, d301, d302, d303, d304, d305, d306, d307, d308, d309, d310, d311, d312, d313, d314, d315, d316, d317, d318, d319, d320, d321, d322, d323, d324, d325, d326, d327, d328, d329, d330, d331, d332, d333, d334, d335, d336, d337, d338, d339, d340, d341, d342, d343, d344, d345, d346, d347, d348, d349, d350, d351, d352, d353, d354, d355, d356, d357, d358, d359, d360, d361, d362, d363, d364, d365, d366, d367, d368, d369, d370, d371, d372, d373, d374, d375, d376, d377, d378, d379, d380, d381, d382, d383, d384, d385, x386, x387, x388, x389, x390, x391, x392, x393, x394, x395, x396, x397, x398, x399, x400, x401, x402, x403, x404, x405, x406, x407, x408, x409, x410, x411, x412, x413, x414, x415, x416, x417, x418, x419, x420, x421, x422, x423, x424, x425, x426, x427, x428, x429, x430, x431, x432, x433, x434, x435, x436, x437, x438, x439, x440, x441, x442, x443, x444], []⟩ w1) :
    Code.wp Yba.prog (fst (fst ((Yba.f4.body.bind (tailAt 108)).getD .skip))) (Exit.then K2 (Exit.then K1 Q)) ⟨#[d0, d1, d2, d3, d4, d5, d6, d7, d8, d9, .int .i64 (nn : Int), d11, d12, d13, d14, d15, d16, d17, d18, d19, d20, d21, .slice (some ⟨gp, 0, none⟩) nn nn, d23, d24, d25, d26, d27, d28, d29, d30, d31, d32, d33, d34, d35, d36, d37, .slice (some ⟨gc, 0, none⟩) nn nn, d39, .slice (some ⟨gR, 0, none⟩) N N, d41, d42, d43, d44, d45, d46, d47, d48, d49, d50, d51, d52, d53, d54, d55, d56, d57, d58, d59, d60, d61, d62, d63, d64, d65, d66, d67, d68, d69, d70, d71, d72, d73, d74, d75, d76, d77, d78, d79, d80, d81, d82, d83, d84, d85, d86, d87, d88, d89, d90, d91, d92, d93, d94, d95, d96, d97, d98, d99, d100, d101, d102, d103, d104, d105, d106, d107, d108, d109, d110, d111, d112, d113, d114, d115, d116, d117, d118, d119, d120, d121, d122, d123, d124, d125, d126, d127, d128, d129, d130, d131, d132, d133, d134, d135, d136, d137, d138, d139, d140, d141, d142, d143, d144, d145, d146, d147, d148, d149, d150, d151, d152, d153, d154, d155, d156, d157, d158, d159, d160, d161, d162, d163, d164, d165, d166, d167, d168, d169, d170, d171, d172, d173, d174, d175, d176, d177, d178, d179, d180, d181, d182, d183, d184, d185, d186, d187, d188, d189, d190, d191, d192, d193, d194, d195, d196, d197, d198, d199, d200, d201, d202, d203, d204, d205, d206, d207, d208, d209, d210, d211, d212, d213, d214, d215, d216, d217, d218, d219, d220, d221, d222, d223, d224, d225, d226, d227, d228, d229, d230, d231, d232, d233, d234, d235, d236, d237, d238, d239, d240, d241, d242, d243, d244, d245, d246, d247, d248, d249, d250, d251, d252, d253, d254, d255, d256, d257, d258, d259, d260, d261, d262, d263, d264, d265, d266, d267, d268, d269, d270, d271, d272, d273, d274, d275, d276, d277, d278, d279, d280, d281, d282, d283, d284, d285, d286, d287, d288, d289, d290, d291, d292, d293, d294, d295, d296, d297, d298, d299, d300, d301, d302, d303, d304, d305, d306, d307, d308, d309, d310, d311, d312, d313, d314, d315, d316, d317, d318, d319, d320, d321, d322, d323, d324, d325, d326, d327, d328, d329, d330, d331, d332, d333, d334, d335, d336, d337, d338, d339, d340, d341, d342, d343, d344, d345, d346, d347, d348, d349, d350, d351, d352, d353, d354, d355, d356, d357, d358, d359, d360, d361, d362, d363, d364, d365, d366, d367, d368, d369, d370, d371, d372, d373, d374, d375, d376, d377, d378, d379, d380, d381, d382, d383, d384, d385, d386, d387, d388, d389, d390, d391, d392, d393, d394, d395, d396, d397, d398, d399, d400, d401, d402, d403, d404, d405, d406, d407, d408, d409, d410, d411, d412, d413, d414, d415, d416, d417, d418, d419, d420, d421, d422, d423, d424, d425, d426, d427, d428, d429, d430, d431, d432, d433, d434, d435, d436, d437, d438, d439, d440, d441, d442, d443, d444], []⟩ w1 := by
  conv => arg 2; whnf
  conv at hK2 => enter [a, w', 1, 2]; whnf
  have HK := hide hK1
  clear hK1
  have HQ := hide hq
  have HP := hide (hP.keep hq.tch)
  have HC := hide (hC.keep hq.tch)
  have HCL := hide hcl
  clear hq hP hC hcl
  go_wp2_with fail
  go_loopw [52] (fun t wq => ∃ u : Nat, u ≤ nn ∧ t = .int .i64 (u : Int) ∧ wq = w1) (fun t _ => nn - (intOf t).toNat)
  case atStart => exact ⟨0, Nat.zero_le _, rfl, rfl⟩
  case round =>
    obtain ⟨u, hu, rfl, hwr⟩ := hrel
    subst hwr
    by_cases hul : u < nn
    · have cs := HQ.out.slot (i := u) (by omega)
      obtain ⟨b1, cb1, hb1⟩ := HQ.out.cell (i := u) (j := u) (by omega) (by omega)
      obtain ⟨bc, hbc, hwant⟩ := HCL.out u hul
      have cc := HC.out.at_ u bc hbc
      have e1 : (u : Int) < (nn : Int) := by omega
      have e2 : (u : Int) < (N : Int) := by omega
      have HB1 := hide hb1
      have HWT := hide hwant
      clear hb1 hwant hbc
      cases b1 with
      | false =>
        have hbcf : bc = false := by
          cases bc with
          | false => rfl
          | true =>
            have := (HWT.out.1 rfl).1
            have h2 := HB1.out.2 this
            cases h2
        subst hbcf
        go_wp2_with fail
        go_roundw
        case rel => exact ⟨u + 1, by omega, by go_num, by first | rfl | trivial⟩
        case measure => simp [intOf]; omega
      | true =>
        have hpu : Plus E u u := by first | exact HB1.out.1 rfl | exact HB1.out.1 trivial
        have HW0 := hide (show ∃ bw : Bool, Value.bool false = .bool bw ∧ (bw = true ↔ WantTo E pt u 0) from ⟨false, rfl, by
          constructor
          · intro h; cases h
          · rintro ⟨x, hx, _⟩; omega⟩)
        generalize wr = wZ at *
        go_wp2_with fail
        go_loopw [54, 53] (fun t v wq => ∃ x : Nat, x ≤ nn ∧ t = .int .i64 (x : Int) ∧ wq = wZ ∧ ∃ bw : Bool, v = .bool bw ∧ (bw = true ↔ WantTo E pt u x)) (fun t _ _ => nn - (intOf t).toNat)
        case atStart => exact ⟨0, Nat.zero_le _, rfl, rfl, HW0.out⟩
        case round =>
          clear HW0
          obtain ⟨x, hx, rfl, hwr, bw, rfl, hbw⟩ := hrel
          subst hwr
          have HBW := hide hbw
          clear hbw
          by_cases hxl : x < nn
          · obtain ⟨bp, hbp⟩ : ∃ b, pt[x]? = some b := ⟨pt[x]'(by rw [HP.out.len]; exact hxl), List.getElem?_eq_getElem _⟩
            have cp := HP.out.at_ x bp hbp
            have hpt := ptAt_of hbp
            have csx := HQ.out.slot (i := x) (by omega)
            obtain ⟨bv, cv, hv⟩ := HQ.out.cell (i := x) (j := x) (by omega) (by omega)
            obtain ⟨buv, cuv, huv⟩ := HQ.out.cell (i := u) (j := x) (by omega) (by omega)
            obtain ⟨bvu, cvu, hvu⟩ := HQ.out.cell (i := x) (j := u) (by omega) (by omega)
            have HPT := hide hpt
            have HV := hide hv
            have HUV := hide huv
            have HVU := hide hvu
            have HX0 := hide (show WantTo E pt u x → WantTo E pt u (x + 1) from fun ⟨y, hy, h⟩ => ⟨y, by omega, h⟩)
            have HX1 := hide (show WantTo E pt u (x + 1) → ¬ (ptAt pt x = true ∧ Plus E x x ∧ (x = u ∨ (Plus E u x ∧ Plus E x u))) → WantTo E pt u x from fun ⟨y, hy, h⟩ hn => ⟨y, by
              by_cases e : y = x
              · subst e; exact absurd h hn
              · omega, h⟩)
            clear hpt hv huv hvu hbp
            have e3 : (x : Int) < (nn : Int) := by omega
            have e4 : (x : Int) < (N : Int) := by omega
            have HNO := hide (fun (hn : ¬ (ptAt pt x = true ∧ Plus E x x ∧ (x = u ∨ (Plus E u x ∧ Plus E x u)))) => (show ∃ bw' : Bool, Value.bool bw = .bool bw' ∧ (bw' = true ↔ WantTo E pt u (x + 1)) from ⟨bw, rfl, HBW.out.trans ⟨HX0.out, fun h => HX1.out h hn⟩⟩))
            have HYES := hide (fun (hy : ptAt pt x = true ∧ Plus E x x ∧ (x = u ∨ (Plus E u x ∧ Plus E x u))) => (show ∃ bw' : Bool, Value.bool true = .bool bw' ∧ (bw' = true ↔ WantTo E pt u (x + 1)) from ⟨true, rfl, ⟨fun _ => ⟨x, by omega, hy⟩, fun _ => rfl⟩⟩))
            clear HX0 HX1
            cases bp with
            | false =>
              have HJ := hide (HNO.out (fun h => by have h2 := HPT.out; rw [h.1] at h2; cases h2))
              clear HNO HYES
              go_wp2_with fail
              go_roundw
              case rel => exact ⟨x + 1, by omega, by go_num, by first | rfl | trivial, HJ.out⟩
              case measure => simp [intOf]; omega
            | true =>
              cases bv with
              | false =>
                have HJ := hide (HNO.out (fun h => by have h2 := HV.out.2 h.2.1; cases h2))
                clear HNO HYES
                go_wp2_with fail
                go_roundw
                case rel => exact ⟨x + 1, by omega, by go_num, by first | rfl | trivial, HJ.out⟩
                case measure => simp [intOf]; omega
              | true =>
                have hvv : Plus E x x := by first | exact HV.out.1 rfl | exact HV.out.1 trivial
                by_cases hxu : x = u
                · have e5 : ((x : Int) == (u : Int)) = true := by rw [hxu]; simp
                  have HJ := hide (HYES.out ⟨HPT.out, hvv, .inl hxu⟩)
                  have HXU := hide hxu
                  clear HNO HYES hxu
                  go_wp2_with fail
                  go_roundw
                  case rel => exact ⟨x + 1, by omega, by go_num, by first | rfl | trivial, HJ.out⟩
                  case measure => simp [intOf]; omega
                · have e5 : ((x : Int) == (u : Int)) = false := by rw [beq_eq_false_iff_ne]; omega
                  cases buv with
                  | false =>
                    have HJ := hide (HNO.out (fun h => by
                      rcases h.2.2 with h1 | h1
                      · exact hxu h1
                      · have h2 := HUV.out.2 h1.1; cases h2))
                    clear HNO HYES
                    go_wp2_with fail
                    go_roundw
                    case rel => exact ⟨x + 1, by omega, by go_num, by first | rfl | trivial, HJ.out⟩
                    case measure => simp [intOf]; omega
                  | true =>
                    cases bvu with
                    | false =>
                      have HJ := hide (HNO.out (fun h => by
                        rcases h.2.2 with h1 | h1
                        · exact hxu h1
                        · have h2 := HVU.out.2 h1.2; cases h2))
                      clear HNO HYES
                      go_wp2_with fail
                      go_roundw
                      case rel => exact ⟨x + 1, by omega, by go_num, by first | rfl | trivial, HJ.out⟩
                      case measure => simp [intOf]; omega
                    | true =>
                      have HJ := hide (HYES.out ⟨HPT.out, hvv, .inr ⟨(by first | exact HUV.out.1 rfl | exact HUV.out.1 trivial), (by first | exact HVU.out.1 rfl | exact HVU.out.1 trivial)⟩⟩)
                      clear HNO HYES
                      go_wp2_with fail
                      go_roundw
                      case rel => exact ⟨x + 1, by omega, by go_num, by first | rfl | trivial, HJ.out⟩
                      case measure => simp [intOf]; omega
          · obtain rfl : nn = x := by omega
            have hbe : bc = bw := by
              have h1 : bc = true ↔ bw = true := by
                rw [HWT.out, HBW.out]
                exact ⟨fun h => h.2, fun h => ⟨hpu, h⟩⟩
              cases bc <;> cases bw <;> simp at h1 <;> rfl
            subst hbe
            have e6 : (bc != bc) = false := by simp
            go_wp2_with fail
            go_roundw
            case rel => exact ⟨u + 1, by omega, by go_num, by first | rfl | trivial⟩
            case measure => simp [intOf]; omega
    · obtain rfl : nn = u := by omega
      go_wp2_with fail
      exact HK.out _ _ _ _ _ _ _ _ _ _ _ _ _ _ _ _ _ _ _ _ _ _ _ _ _ _ _ _ _ _ _ _ _ _ _ _ _ _ _ _ _ _ _ _ _ _ _ _ _ _ _ _ _ _ _ _ _ _ _ _ _ _ _
end Go.Proofs.Ybulkaxc.Law
