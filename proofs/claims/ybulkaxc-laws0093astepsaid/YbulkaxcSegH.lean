/-
  LawS0093AStep, the walk's segment: the counts are compared.
-/
import Derived.Test.YbulkaxcSegI
namespace Go.Proofs.Ybulkaxc.Seg
open Go Go.RowKit Go.Proofs.Ybulkaxc.Mem Go.Proofs.Ybulkaxc.Step Go.Proofs.Ybulkaxc.Clone
set_option linter.unusedVariables false

theorem wrap_ne {x y z : Int} (h : x = wrap32 (y - z)) : (x != wrap32 (y - z)) = false := by simp [h]

set_option maxRecDepth 100000 in
set_option maxHeartbeats 1000000 in
theorem segH (d0 d1 d2 d3 d4 d5 d7 d8 d9 d10 d11 d12 d13 d14 d15 d16 d17 d18 d19 d20 d21 d22 d23 d24 d25 d26 d27 d28 d29 d30 d31 d32 d33 d34 d36 d41 d45 d46 d47 d48 d49 d50 d51 d52 d53 d54 d55 d56 d57 d58 d59 d60 d61 d62 d63 d64 d65 d66 d67 d68 d69 d70 d71 d72 d73 d74 d75 d76 d77 d78 d79 d80 d81 d82 d83 d84 d85 d86 d87 d88 d89 d90 d91 d92 d93 d94 d95 d96 d97 d98 d99 d100 d101 d102 d103 d104 d105 d106 d107 d108 d109 d110 d111 d112 d113 d114 d115 d116 d117 d118 d119 d120 d121 d122 d123 d124 d125 d126 d127 d128 d129 d130 d131 d132 d133 d134 d135 d136 d137 d138 d139 d140 d141 d142 d143 d144 d145 d146 d147 d148 d149 d150 d151 d152 d153 d154 d155 d156 d157 d158 d159 d160 d161 d162 d163 d164 d165 d166 d167 d168 d169 d170 d171 d172 d173 d174 d175 d176 d177 d178 d179 d180 d181 d182 d183 d184 d185 d186 d187 d188 d189 d190 d191 d192 d193 d194 d195 d196 d197 d198 d199 d200 d201 d202 d203 d204 d205 d206 d207 d208 d209 d210 d211 d212 d213 d214 d215 d216 d217 d218 d219 d220 d221 d222 d223 d224 d225 d226 d227 d228 d229 d230 d231 d232 d233 d234 d235 d236 d237 d238 d239 d240 d241 d242 d243 d244 d245 d246 d247 d248 d249 d250 d251 d252 d253 d254 d255 d256 d257 d258 d259 d260 d261 d262 d263 d264 d265 d266 d267 d268 d269 d270 d271 d272 d273 d274 d275 d276 d277 d278 d279 d280 d281 d282 d283 d284 d285 d286 d287 d288 d289 d290 d291 d292 d293 d294 d295 d296 d297 d298 d299 d300 d301 d302 d303 d304 d305 d306 d307 d308 d309 d310 d311 d312 d313 d314 d315 d316 d317 d318 d319 d320 d321 d322 d323 d324 d325 d326 d327 d328 d329 d330 d331 d332 d333 d334 d335 d336 d337 d338 d339 d340 d341 d342 d343 d344 d345 d346 d347 d348 d349 d350 : Value) (B gs gd gl gi ci g35 c35 g42 c42 T : Nat) (v6 v43 v44 vt vp vl : Value) (ind old seen tka pts lg : List Int) (p : Int) (w0 w : World)
    (h6 : Src w v6 tka) (h : SW w B gs gd gl (.slice (some ⟨gi, 0, none⟩) T ci) vt vp vl ind (tka ++ [p]) pts lg) (h44 : Own w B v44 pts) (h43 : Own w B v43 lg)
    (h35 : Own w B (.slice (some ⟨g35, 0, none⟩) T c35) old) (h42 : Own w B (.slice (some ⟨g42, 0, none⟩) T c42) seen) (hT : T ≤ 100000)
    (hrel : ∀ (k : Nat) (x y z : Int), ind[k]? = some x → old[k]? = some y → seen[k]? = some z → x = wrap32 (y - z))
    (l1 : tka.length ≤ 10000) (l2 : pts.length ≤ 20000) (l3 : lg.length ≤ 20000) (hb : Below w0.heap.size w0 w)
    (K K1 : Act → World → Prop) (hK : ∀ a w, Code.wp Yba.prog (snd ((Yba.f3.body.bind (tailAt 64)).getD .skip)) (Post w0) a w → K a w) (hK1 : ∀ a w, Code.wp Yba.prog (snd (fst ((Yba.f3.body.bind (tailAt 64)).getD .skip))) (Exit.then K (Post w0)) a w → K1 a w) :
    Code.wp Yba.prog (fst (fst ((Yba.f3.body.bind (tailAt 64)).getD .skip))) (Exit.then K1 (Exit.then K (Post w0))) ⟨#[d0, d1, d2, d3, d4, d5, v6, d7, d8, d9, d10, d11, d12, d13, d14, d15, d16, d17, d18, d19, d20, d21, d22, d23, d24, d25, d26, d27, d28, d29, d30, d31, d32, d33, d34, .slice (some ⟨g35, 0, none⟩) T c35, d36, .slice (some ⟨gi, 0, none⟩) T ci, .pointer (some ⟨gl, 0, none⟩), .pointer (some ⟨gs, 0, none⟩), .int .i32 p, d41, .slice (some ⟨g42, 0, none⟩) T c42, v43, v44, d45, d46, d47, d48, d49, d50, d51, d52, d53, d54, d55, d56, d57, d58, d59, d60, d61, d62, d63, d64, d65, d66, d67, d68, d69, d70, d71, d72, d73, d74, d75, d76, d77, d78, d79, d80, d81, d82, d83, d84, d85, d86, d87, d88, d89, d90, d91, d92, d93, d94, d95, d96, d97, d98, d99, d100, d101, d102, d103, d104, d105, d106, d107, d108, d109, d110, d111, d112, d113, d114, d115, d116, d117, d118, d119, d120, d121, d122, d123, d124, d125, d126, d127, d128, d129, d130, d131, d132, d133, d134, d135, d136, d137, d138, d139, d140, d141, d142, d143, d144, d145, d146, d147, d148, d149, d150, d151, d152, d153, d154, d155, d156, d157, d158, d159, d160, d161, d162, d163, d164, d165, d166, d167, d168, d169, d170, d171, d172, d173, d174, d175, d176, d177, d178, d179, d180, d181, d182, d183, d184, d185, d186, d187, d188, d189, d190, d191, d192, d193, d194, d195, d196, d197, d198, d199, d200, d201, d202, d203, d204, d205, d206, d207, d208, d209, d210, d211, d212, d213, d214, d215, d216, d217, d218, d219, d220, d221, d222, d223, d224, d225, d226, d227, d228, d229, d230, d231, d232, d233, d234, d235, d236, d237, d238, d239, d240, d241, d242, d243, d244, d245, d246, d247, d248, d249, d250, d251, d252, d253, d254, d255, d256, d257, d258, d259, d260, d261, d262, d263, d264, d265, d266, d267, d268, d269, d270, d271, d272, d273, d274, d275, d276, d277, d278, d279, d280, d281, d282, d283, d284, d285, d286, d287, d288, d289, d290, d291, d292, d293, d294, d295, d296, d297, d298, d299, d300, d301, d302, d303, d304, d305, d306, d307, d308, d309, d310, d311, d312, d313, d314, d315, d316, d317, d318, d319, d320, d321, d322, d323, d324, d325, d326, d327, d328, d329, d330, d331, d332, d333, d334, d335, d336, d337, d338, d339, d340, d341, d342, d343, d344, d345, d346, d347, d348, d349, d350], []⟩ w := by
  conv => arg 2; whnf
  conv at hK => enter [a, w, 1, 2]; whnf
  conv at hK1 => enter [a, w, 1, 2]; whnf
  have H6 := hide h6
  have H := hide h
  have H44 := hide h44
  have H43 := hide h43
  have H35 := hide h35
  have H42 := hide h42
  have HR := hide hrel
  have HB := hide hb
  have e1 := h.oi.len
  have e2 := h35.len
  have e3 := h42.len
  have E1 := hide e1
  have E2 := hide e2
  have E3 := hide e3
  clear h6 h h44 h43 h35 h42 hb e1 e2 e3 hrel
  go_wp2_with fail
  go_loopw [311] (fun t wr => ∃ k : Nat, k ≤ T ∧ t = .int .i64 k ∧ ∃ q, wr = w.drewN q) (fun t _ => T - (intOf t).toNat)
  case atStart => exact ⟨0, Nat.zero_le _, rfl, 0, rfl⟩
  case round =>
    obtain ⟨k, hk, rfl, q, hwr⟩ := hrel
    have HW := hide hwr
    by_cases hlt : k < T
    · obtain ⟨x, hx, cx⟩ := H.out.oi.cell (i := k) (by rw [E1.out]; exact hlt)
      obtain ⟨y, hy, cy⟩ := H35.out.cell (i := k) (by rw [E2.out]; exact hlt)
      obtain ⟨z, hz, cz⟩ := H42.out.cell (i := k) (by rw [E3.out]; exact hlt)
      have hne := wrap_ne (HR.out k x y z hx hy hz)
      have cx' : wr.cell? ⟨gi, k, none⟩ = some (.int .i32 x) := by rw [hwr]; exact cx
      have cy' : wr.cell? ⟨g35, k, none⟩ = some (.int .i32 y) := by rw [hwr]; exact cy
      have cz' : wr.cell? ⟨g42, k, none⟩ = some (.int .i32 z) := by rw [hwr]; exact cz
      clear hwr hx hy hz cx cy cz
      go_wp2_with fail
      go_quiet (fail)
      go_wp2_with fail
      go_roundw
      case rel => exact ⟨k + 1, by omega, by go_num, _, by rw [HW.out, World.drewN_drewN]⟩
      case measure => simp [intOf]; omega
    · have hb' : Below w0.heap.size w0 wr := by rw [hwr]; exact below_drewN HB.out q
      have h6' : Src wr v6 tka := by rw [hwr]; exact H6.out
      have h44' : Own wr B v44 pts := by rw [hwr]; exact H44.out.drewN q
      have h43' : Own wr B v43 lg := by rw [hwr]; exact H43.out.drewN q
      have h' : SW wr B gs gd gl (.slice (some ⟨gi, 0, none⟩) T ci) vt vp vl ind (tka ++ [p]) pts lg := by rw [hwr]; exact H.out.drewN q
      have HB' := hide hb'
      have H6' := hide h6'
      have H44' := hide h44'
      have H43' := hide h43'
      have H' := hide h'
      clear hwr hb' h6' h44' h43' h'
      go_upto_region 70 with fail
      refine segI _ _ _ _ _ _ _ _ _ _ _ _ _ _ _ _ _ _ _ _ _ _ _ _ _ _ _ _ _ _ _ _ _ _ _ _ _ _ _ _ _ _ _ _ _ _ _ _ _ _ _ _ _ _ _ _ _ _ _ _ _ _ _ _ _ _ _ _ _ _ _ _ _ _ _ _ _ _ _ _ _ _ _ _ _ _ _ _ _ _ _ _ _ _ _ _ _ _ _ _ _ _ _ _ _ _ _ _ _ _ _ _ _ _ _ _ _ _ _ _ _ _ _ _ _ _ _ _ _ _ _ _ _ _ _ _ _ _ _ _ _ _ _ _ _ _ _ _ _ _ _ _ _ _ _ _ _ _ _ _ _ _ _ _ _ _ _ _ _ _ _ _ _ _ _ _ _ _ _ _ _ _ _ _ _ _ _ _ _ _ _ _ _ _ _ _ _ _ _ _ _ _ _ _ _ _ _ _ _ _ _ _ _ _ _ _ _ _ _ _ _ _ _ _ _ _ _ _ _ _ _ _ _ _ _ _ _ _ _ _ _ _ _ _ _ _ _ _ _ _ _ _ _ _ _ _ _ _ _ _ _ _ _ _ _ _ _ _ _ _ _ _ _ _ _ _ _ _ _ _ _ _ _ _ _ _ _ _ _ _ _ _ _ _ _ _ _ _ _ _ _ _ _ _ _ _ _ _ _ _ _ _ _ _ _ _ _ _ _ _ _ _ _ _ _ _ _ _ _ _ _ _ _ _ _ _ _ _ _ _ _ _ _ _ _ B gs gd gl v6 v43 v44 _ vt vp vl ind tka pts lg p w0 wr H6'.out H'.out H44'.out H43'.out l1 l2 l3 HB'.out _ ?_
      assumption
end Go.Proofs.Ybulkaxc.Seg
