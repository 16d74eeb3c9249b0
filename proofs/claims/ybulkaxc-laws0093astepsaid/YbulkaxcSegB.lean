/-
  LawS0093AStep, the walk's segment: the starts.
-/
import Derived.Test.YbulkaxcSegC
namespace Go.Proofs.Ybulkaxc.Seg
open Go Go.RowKit Go.Proofs.Ybulkaxc.Mem Go.Proofs.Ybulkaxc.Step Go.Proofs.Ybulkaxc.Clone
set_option linter.unusedVariables false

def RelB (W T : Nat) (fs : List Nat) (w : World) (k : Nat) (wr : World) : Prop :=
  ∃ sl, Own wr W (.slice (some ⟨W, 0, none⟩) (T + 1) (T + 1)) sl ∧ (∀ i, i ≤ k → sl[i]? = some ((below fs i : Nat) : Int)) ∧ Tch [] w wr

theorem relB_step {W T k : Nat} {fs : List Nat} {w wr W1 : World} {sl : List Int} (h : Own wr W (.slice (some ⟨W, 0, none⟩) (T + 1) (T + 1)) sl) (h2 : ∀ i, i ≤ k → sl[i]? = some ((below fs i : Nat) : Int)) (h3 : Tch [] w wr)
    (hW : w.heap.size ≤ W) (hk : k < T) (he : W1 = (wr.setCell ⟨W, k + 1, none⟩ (.int .i32 ((below fs k : Nat) + (fs.count k : Nat) : Int))).drew) : RelB W T fs w (k + 1) W1 := by
  rw [he]
  refine ⟨_, (h.set (k + 1) _).drewN 1, fun i hi => ?_, (h3.setCell (.inr hW) _).drew⟩
  rw [List.getElem?_set]
  by_cases e : k + 1 = i
  · rw [if_pos e, if_pos (by rw [h.len]; omega), ← e, below_succ]; simp
  · rw [if_neg e]; exact h2 i (by omega)

set_option maxRecDepth 100000 in
set_option maxHeartbeats 2000000 in
theorem segB (d0 d1 d2 d8 d9 d10 d11 d12 d13 d14 d15 d16 d17 d19 d24 d25 d26 d27 d28 d29 d30 d31 d32 d33 d34 d35 d36 d37 d38 d39 d40 d41 d42 d43 d44 d45 d46 d47 d48 d49 d50 d51 d52 d53 d54 d55 d56 d57 d58 d59 d60 d61 d62 d63 d64 d65 d66 d67 d68 d69 d70 d71 d72 d73 d74 d75 d76 d77 d78 d79 d80 d81 d82 d83 d84 d85 d86 d87 d88 d89 d90 d91 d92 d93 d94 d95 d96 d97 d98 d99 d100 d101 d102 d103 d104 d105 d106 d107 d108 d109 d110 d111 d112 d113 d114 d115 d116 d117 d118 d119 d120 d121 d122 d123 d124 d125 d126 d127 d128 d129 d130 d131 d132 d133 d134 d135 d136 d137 d138 d139 d140 d141 d142 d143 d144 d145 d146 d147 d148 d149 d150 d151 d152 d153 d154 d155 d156 d157 d158 d159 d160 d161 d162 d163 d164 d165 d166 d167 d168 d169 d170 d171 d172 d173 d174 d175 d176 d177 d178 d179 d180 d181 d182 d183 d184 d185 d186 d187 d188 d189 d190 d191 d192 d193 d194 d195 d196 d197 d198 d199 d200 d201 d202 d203 d204 d205 d206 d207 d208 d209 d210 d211 d212 d213 d214 d215 d216 d217 d218 d219 d220 d221 d222 d223 d224 d225 d226 d227 d228 d229 d230 d231 d232 d233 d234 d235 d236 d237 d238 d239 d240 d241 d242 d243 d244 d245 d246 d247 d248 d249 d250 d251 d252 d253 d254 d255 d256 d257 d258 d259 d260 d261 d262 d263 d264 d265 d266 d267 d268 d269 d270 d271 d272 d273 d274 d275 d276 d277 d278 d279 d280 d281 d282 d283 d284 d285 d286 d287 d288 d289 d290 d291 d292 d293 d294 d295 d296 d297 d298 d299 d300 d301 d302 d303 d304 d305 d306 d307 d308 d309 d310 d311 d312 d313 d314 d315 d316 d317 d318 d319 d320 d321 d322 d323 d324 d325 d326 d327 d328 d329 d330 d331 d332 d333 d334 d335 d336 d337 d338 d339 d340 d341 d342 d343 d344 d345 d346 d347 d348 d349 d350 : Value) (B gd gc m T L n5 c5 c4 cl : Nat) (a4 a5 al : Option Addr) (n a3 : Int) (v6 v7 x4 x5 x6 : Value) (xs : List (Nat × Nat)) (ct dga tka pta : List Int) (w0 w : World)
    (h4 : Arcs w a4 m xs) (h6 : Src w v6 tka) (h7 : Src w v7 pta) (h5 : Src w (.slice a5 n5 c5) dga) (hd : Blk w gd 29 [.pointer none, .int .i32 n, .slice al L cl, .int .i32 0, x4, x5, x6])
    (hct : Own w B (.slice (some ⟨gc, 0, none⟩) (T + 1) (T + 1)) ct) (hC : ∀ f, f < T → ct[f]? = some (((tails T xs).count f : Nat) : Int)) (hBd : w0.heap.size ≤ gd)
    (ha3 : 0 ≤ a3 ∧ a3 ≤ 255) (hT0 : 1 ≤ T) (hT : T ≤ 1000) (hL0 : 1 ≤ L) (hL : L ≤ 100) (hn1 : 0 ≤ n * (L : Int)) (htT : n * (L : Int) ≤ T) (hm : m ≤ 2000) (hn5 : n5 ≤ 2000)
    (hdg : ∀ y ∈ dga, -2147483648 ≤ y ∧ y ≤ 2147483647) (o5 : dga ≠ [] → ∀ g, (Value.slice a5 n5 c5).ownBlock = some g → g ≠ gd) (o6 : tka ≠ [] → ∀ g, v6.ownBlock = some g → g ≠ gd) (o7 : pta ≠ [] → ∀ g, v7.ownBlock = some g → g ≠ gd)
    (l1 : tka.length ≤ 5000) (l2 : pta.length ≤ 5000) (hb : Below w0.heap.size w0 w) (hBw : B ≤ w.heap.size)
    (K : Act → World → Prop) (hK : ∀ a w, Code.wp Yba.prog (snd ((Yba.f3.body.bind (tailAt 15)).getD .skip)) (Post w0) a w → K a w) :
    Code.wp Yba.prog (fst ((Yba.f3.body.bind (tailAt 15)).getD .skip)) (Exit.then K (Post w0)) ⟨#[d0, d1, d2, .int .u8 a3, .slice a4 m c4, .slice a5 n5 c5, v6, v7, d8, d9, d10, d11, d12, d13, d14, d15, d16, d17, .int .i64 (L : Int), d19, .int .i32 (n * (L : Int)), .int .i32 (T : Int), .pointer (some ⟨gd, 0, none⟩), .slice (some ⟨gc, 0, none⟩) (T + 1) (T + 1), d24, d25, d26, d27, d28, d29, d30, d31, d32, d33, d34, d35, d36, d37, d38, d39, d40, d41, d42, d43, d44, d45, d46, d47, d48, d49, d50, d51, d52, d53, d54, d55, d56, d57, d58, d59, d60, d61, d62, d63, d64, d65, d66, d67, d68, d69, d70, d71, d72, d73, d74, d75, d76, d77, d78, d79, d80, d81, d82, d83, d84, d85, d86, d87, d88, d89, d90, d91, d92, d93, d94, d95, d96, d97, d98, d99, d100, d101, d102, d103, d104, d105, d106, d107, d108, d109, d110, d111, d112, d113, d114, d115, d116, d117, d118, d119, d120, d121, d122, d123, d124, d125, d126, d127, d128, d129, d130, d131, d132, d133, d134, d135, d136, d137, d138, d139, d140, d141, d142, d143, d144, d145, d146, d147, d148, d149, d150, d151, d152, d153, d154, d155, d156, d157, d158, d159, d160, d161, d162, d163, d164, d165, d166, d167, d168, d169, d170, d171, d172, d173, d174, d175, d176, d177, d178, d179, d180, d181, d182, d183, d184, d185, d186, d187, d188, d189, d190, d191, d192, d193, d194, d195, d196, d197, d198, d199, d200, d201, d202, d203, d204, d205, d206, d207, d208, d209, d210, d211, d212, d213, d214, d215, d216, d217, d218, d219, d220, d221, d222, d223, d224, d225, d226, d227, d228, d229, d230, d231, d232, d233, d234, d235, d236, d237, d238, d239, d240, d241, d242, d243, d244, d245, d246, d247, d248, d249, d250, d251, d252, d253, d254, d255, d256, d257, d258, d259, d260, d261, d262, d263, d264, d265, d266, d267, d268, d269, d270, d271, d272, d273, d274, d275, d276, d277, d278, d279, d280, d281, d282, d283, d284, d285, d286, d287, d288, d289, d290, d291, d292, d293, d294, d295, d296, d297, d298, d299, d300, d301, d302, d303, d304, d305, d306, d307, d308, d309, d310, d311, d312, d313, d314, d315, d316, d317, d318, d319, d320, d321, d322, d323, d324, d325, d326, d327, d328, d329, d330, d331, d332, d333, d334, d335, d336, d337, d338, d339, d340, d341, d342, d343, d344, d345, d346, d347, d348, d349, d350], []⟩ w := by
  conv => arg 2; whnf
  conv at hK => enter [a, w, 1, 2]; whnf
  obtain ⟨i0, hi, hz0, hz1, hz2⟩ := info_parts info21
  have HD := hide hd
  have hgdlt := hd.lt
  have hgclt := (hct.lt (g := gc) rfl).2
  have H4 := hide h4
  have H6 := hide h6
  have H7 := hide h7
  have H5 := hide h5
  have HCT := hide hct
  have HC := hide hC
  have HB := hide hb
  have HDG := hide hdg
  have HO5 := hide o5
  have HO6 := hide o6
  have HO7 := hide o7
  clear hd h4 h6 h7 h5 hct hC hb hdg o5 o6 o7
  go_wp2_with (first
    | (refine wpList_make_full _ rfl (.tmp 113) (.tmp 113) 23 rfl w.heap.size 21 i0 (.int .i32 0) 1 Yba.underlying23 hi hz0 hz1 .i32 .i32 _ _ (T + 1) rfl rfl (by omega) (by omega) (by rw [hz2]; omega) (by unfold maxLen; omega) (Nat.le_refl _) ?_; intro w1 hown1 hgr1)
    | fail)
  have R0 : RelB w.heap.size T (tails T xs) w 0 w1 := ⟨_, Own.made hown1, fun i hi => by
    obtain rfl : i = 0 := by omega
    rw [below_zero]; simp, (Tch.refl _ _).of_grownBy hgr1 (by simp)⟩
  have HR0 := hide R0
  clear R0 hown1 hgr1
  generalize hgs : w.heap.size = gst at *
  have HGS := hide hgs
  clear hgs
  go_loopw [27] (fun t wr => ∃ k : Nat, k ≤ T ∧ t = .int .i32 k ∧ RelB gst T (tails T xs) w k wr) (fun t _ => T - (intOf t).toNat)
  case atStart => exact ⟨0, Nat.zero_le _, rfl, HR0.out⟩
  case round =>
    clear HR0
    obtain ⟨k, hk, rfl, sl, q1, q2, q3⟩ := hrel
    by_cases hlt : k < T
    · have hb1 := below_le (tails T xs) (k + 1)
      rw [below_succ] at hb1
      have htlen : (tails T xs).length = m := by unfold tails; rw [List.length_map]; exact H4.out.1
      rw [htlen] at hb1
      obtain ⟨x, ex, c1⟩ := q1.cell (i := k) (by rw [q1.len]; omega)
      rw [q2 k (Nat.le_refl _)] at ex
      cases ex
      obtain ⟨y, ey, c2⟩ := (Own.keep HCT.out q3).cell (i := k) (by rw [HCT.out.len]; omega)
      rw [HC.out k hlt] at ey
      cases ey
      obtain ⟨z, _, c3⟩ := q1.cell (i := k + 1) (by rw [q1.len]; omega)
      have f3 := q1.frozen (k + 1)
      have R1 := fun W1 => relB_step (W1 := W1) q1 q2 q3 (Nat.le_of_eq HGS.out) hlt
      generalize below (tails T xs) k = bk at *
      generalize (tails T xs).count k = ck at *
      have HR1 := hide R1
      have hne : gc ≠ gst := by have := HGS.out; omega
      have k1 : (k : Int) < (T : Int) + 1 := by omega
      have k2 : (k : Int) + 1 < (T : Int) + 1 := by omega
      have k3 : (0 : Int) ≤ (k : Int) + 1 := by omega
      clear q1 q2 q3 R1 htlen
      go_wp2_with fail
      go_region
      all_goals
        go_wp2_with fail
        go_roundw
        case rel => exact ⟨k + 1, by omega, by go_num, HR1.out _ rfl⟩
        case measure => simp [intOf]; omega
    · obtain rfl : k = T := by omega
      have g2 : gst < wr.heap.size := (q1.lt (g := gst) rfl).2
      have hne1 : gst ≠ gd := by have := HGS.out; omega
      have q1' := q1.mono (B' := B) (by have := HGS.out; omega)
      have Q1 := hide q1'
      have Q2 := hide q2
      have Q3 := hide q3
      have hzz := q3.size
      have hgs := HGS.out
      have HGS' := hide hgs
      clear q1 q1' q2 q3 hgs
      go_upto_region 20 with fail
      refine segC _ _ _ _ _ _ _ _ _ _ _ _ _ _ _ _ _ _ _ _ _ _ _ _ _ _ _ _ _ _ _ _ _ _ _ _ _ _ _ _ _ _ _ _ _ _ _ _ _ _ _ _ _ _ _ _ _ _ _ _ _ _ _ _ _ _ _ _ _ _ _ _ _ _ _ _ _ _ _ _ _ _ _ _ _ _ _ _ _ _ _ _ _ _ _ _ _ _ _ _ _ _ _ _ _ _ _ _ _ _ _ _ _ _ _ _ _ _ _ _ _ _ _ _ _ _ _ _ _ _ _ _ _ _ _ _ _ _ _ _ _ _ _ _ _ _ _ _ _ _ _ _ _ _ _ _ _ _ _ _ _ _ _ _ _ _ _ _ _ _ _ _ _ _ _ _ _ _ _ _ _ _ _ _ _ _ _ _ _ _ _ _ _ _ _ _ _ _ _ _ _ _ _ _ _ _ _ _ _ _ _ _ _ _ _ _ _ _ _ _ _ _ _ _ _ _ _ _ _ _ _ _ _ _ _ _ _ _ _ _ _ _ _ _ _ _ _ _ _ _ _ _ _ _ _ _ _ _ _ _ _ _ _ _ _ _ _ _ _ _ _ _ _ _ _ _ _ _ _ _ _ _ _ _ _ _ _ _ _ _ _ _ _ _ _ _ _ _ _ _ _ _ _ _ _ _ _ _ _ _ _ _ _ _ _ _ _ _ _ _ _ _ _ _ _ _ _ _ _ _ _ _ _ _ _ _ _ _ _ _ _ B gd gst m k L n5 c5 c4 cl a4 a5 al n a3 v6 v7 x4 x5 x6 xs sl dga tka pta w0 wr (Arcs.keep H4.out Q3.out) (Src.keep H6.out Q3.out) (Src.keep H7.out Q3.out) (Src.keep H5.out Q3.out) (HD.out.touch Q3.out (by simp)) Q1.out Q2.out hne1 hBd ha3 hT0 hT hL0 hL hn1 htT hm hn5 HDG.out HO5.out HO6.out HO7.out l1 l2 (Tch.below0 HB.out Q3.out) (by have := HGS'.out; omega) _ ?_
      assumption
end Go.Proofs.Ybulkaxc.Seg
