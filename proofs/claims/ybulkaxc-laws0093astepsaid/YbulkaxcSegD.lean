/-
  LawS0093AStep, the walk's segment: the digraph is filled; the counts are laid.
-/
import Derived.Test.YbulkaxcSegE
namespace Go.Proofs.Ybulkaxc.Seg
open Go Go.RowKit Go.Proofs.Ybulkaxc.Mem Go.Proofs.Ybulkaxc.Step Go.Proofs.Ybulkaxc.Clone
set_option linter.unusedVariables false

theorem Src.at {w : World} {a : Option Addr} {n c : Nat} {l : List Int} (h : Src w (.slice a n c) l) : l.length = n ∧ ∀ k, k < n → ∃ b off x, a = some ⟨b, off, none⟩ ∧ l[k]? = some x ∧ w.cell? ⟨b, off + k, none⟩ = some (.int .i32 x) := by
  rcases h with ⟨rfl, a', c', e, _⟩ | ⟨b, off, c', e, h⟩
  · cases e
    exact ⟨rfl, fun k hk => by omega⟩
  · cases e
    refine ⟨rfl, fun k hk => ⟨b, off, l[k], rfl, List.getElem?_eq_getElem hk, h k _ (List.getElem?_eq_getElem hk)⟩⟩

theorem Src.touchE {w w' : World} {v : Value} {l : List Int} (h : Src w v l) {S : List Nat} (t : Tch S w w') (hS : l ≠ [] → ∀ g, v.ownBlock = some g → g ∉ S) : Src w' v l := by
  by_cases hl : l = []
  · subst hl
    rcases h with h | ⟨b, off, cap, rfl, h⟩
    · exact .inl h
    · exact .inr ⟨b, off, cap, rfl, fun i x hx => by simp at hx⟩
  · exact h.touch t (hS hl)

/-- The counts so far: all of them int32. -/
def RelD (W T : Nat) (w wr : World) : Prop := ∃ l, Own wr W (.slice (some ⟨W, 0, none⟩) T T) l ∧ (∀ y ∈ l, -2147483648 ≤ y ∧ y ≤ 2147483647) ∧ Tch [] w wr

theorem RelD.cell {W T : Nat} {w wr : World} (h : RelD W T w wr) {k : Nat} (hk : k < T) : ∃ v, wr.cell? ⟨W, k, none⟩ = some v := by
  obtain ⟨l, h1, _⟩ := h
  obtain ⟨x, _, hc⟩ := h1.cell (i := k) (by rw [h1.len]; exact hk)
  exact ⟨_, hc⟩
theorem RelD.frozen {W T : Nat} {w wr : World} (h : RelD W T w wr) (k : Nat) : wr.frozen? ⟨W, k, none⟩ = false := by
  obtain ⟨l, h1, _⟩ := h
  exact h1.frozen k
theorem RelD.step {W T : Nat} {w wr : World} (h : RelD W T w wr) (hW : w.heap.size ≤ W) (k : Nat) {y : Int} (hy : -2147483648 ≤ y ∧ y ≤ 2147483647) : RelD W T w (wr.setCell ⟨W, k, none⟩ (.int .i32 y)) := by
  obtain ⟨l, h1, h2, h3⟩ := h
  refine ⟨l.set k y, h1.set k y, fun z hz => ?_, h3.setCell (.inr hW) _⟩
  rcases List.mem_or_eq_of_mem_set hz with h | h
  · exact h2 z h
  · rw [h]; exact hy

set_option maxRecDepth 100000 in
set_option maxHeartbeats 1000000 in
theorem segD (d0 d1 d2 d4 d8 d9 d10 d11 d12 d13 d14 d15 d16 d17 d19 d23 d24 d25 d27 d28 d31 d32 d33 d34 d35 d36 d37 d38 d39 d40 d41 d42 d43 d44 d45 d46 d47 d48 d49 d50 d51 d52 d53 d54 d55 d56 d57 d58 d59 d60 d61 d62 d63 d64 d65 d66 d67 d68 d69 d70 d71 d72 d73 d74 d75 d76 d77 d78 d79 d80 d81 d82 d83 d84 d85 d86 d87 d88 d89 d90 d91 d92 d93 d94 d95 d96 d97 d98 d99 d100 d101 d102 d103 d104 d105 d106 d107 d108 d109 d110 d111 d112 d113 d114 d115 d116 d117 d118 d119 d120 d121 d122 d123 d124 d125 d126 d127 d128 d129 d130 d131 d132 d133 d134 d135 d136 d137 d138 d139 d140 d141 d142 d143 d144 d145 d146 d147 d148 d149 d150 d151 d152 d153 d154 d155 d156 d157 d158 d159 d160 d161 d162 d163 d164 d165 d166 d167 d168 d169 d170 d171 d172 d173 d174 d175 d176 d177 d178 d179 d180 d181 d182 d183 d184 d185 d186 d187 d188 d189 d190 d191 d192 d193 d194 d195 d196 d197 d198 d199 d200 d201 d202 d203 d204 d205 d206 d207 d208 d209 d210 d211 d212 d213 d214 d215 d216 d217 d218 d219 d220 d221 d222 d223 d224 d225 d226 d227 d228 d229 d230 d231 d232 d233 d234 d235 d236 d237 d238 d239 d240 d241 d242 d243 d244 d245 d246 d247 d248 d249 d250 d251 d252 d253 d254 d255 d256 d257 d258 d259 d260 d261 d262 d263 d264 d265 d266 d267 d268 d269 d270 d271 d272 d273 d274 d275 d276 d277 d278 d279 d280 d281 d282 d283 d284 d285 d286 d287 d288 d289 d290 d291 d292 d293 d294 d295 d296 d297 d298 d299 d300 d301 d302 d303 d304 d305 d306 d307 d308 d309 d310 d311 d312 d313 d314 d315 d316 d317 d318 d319 d320 d321 d322 d323 d324 d325 d326 d327 d328 d329 d330 d331 d332 d333 d334 d335 d336 d337 d338 d339 d340 d341 d342 d343 d344 d345 d346 d347 d348 d349 d350 : Value) (B gd ga gst gh m T L n5 c5 cl : Nat) (a5 al : Option Addr) (n a3 : Int) (v6 v7 x4 x5 x6 : Value) (hs st dga tka pta : List Int) (w0 w : World)
    (h6 : Src w v6 tka) (h7 : Src w v7 pta) (h5 : Src w (.slice a5 n5 c5) dga) (hd : Blk w gd 29 [.pointer none, .int .i32 n, .slice al L cl, .int .i32 0, x4, x5, x6])
    (hrow : Own w B (.slice (some ⟨gh, 0, none⟩) m m) hs) (hst : Own w B (.slice (some ⟨gst, 0, none⟩) (T + 1) (T + 1)) st) (hS : Starts T m st) (hgh : gh ≠ gd) (hgst : gst ≠ gd) (hBd : w0.heap.size ≤ gd)
    (ha3 : 0 ≤ a3 ∧ a3 ≤ 255) (hT0 : 1 ≤ T) (hT : T ≤ 1000) (hL0 : 1 ≤ L) (hL : L ≤ 100) (hn1 : 0 ≤ n * (L : Int)) (htT : n * (L : Int) ≤ T) (hm : m ≤ 2000) (hn5 : n5 ≤ 2000)
    (hdg : ∀ y ∈ dga, -2147483648 ≤ y ∧ y ≤ 2147483647) (hhs : ∀ x ∈ hs, 0 ≤ x ∧ x < T) (o5 : dga ≠ [] → ∀ g, (Value.slice a5 n5 c5).ownBlock = some g → g ≠ gd) (o6 : tka ≠ [] → ∀ g, v6.ownBlock = some g → g ≠ gd) (o7 : pta ≠ [] → ∀ g, v7.ownBlock = some g → g ≠ gd)
    (l1 : tka.length ≤ 5000) (l2 : pta.length ≤ 5000) (hb : Below w0.heap.size w0 w) (hBw : B ≤ w.heap.size)
    (K : Act → World → Prop) (hK : ∀ a w, Code.wp Yba.prog (snd ((Yba.f3.body.bind (tailAt 33)).getD .skip)) (Post w0) a w → K a w) :
    Code.wp Yba.prog (fst ((Yba.f3.body.bind (tailAt 33)).getD .skip)) (Exit.then K (Post w0)) ⟨#[d0, d1, d2, .int .u8 a3, d4, .slice a5 n5 c5, v6, v7, d8, d9, d10, d11, d12, d13, d14, d15, d16, d17, .int .i64 (L : Int), d19, .int .i32 (n * (L : Int)), .int .i32 (T : Int), .pointer (some ⟨gd, 0, none⟩), d23, d24, d25, .slice (some ⟨gst, 0, none⟩) (T + 1) (T + 1), d27, d28, .slice (some ⟨gh, 0, none⟩) m m, .slice (some ⟨ga, 0, none⟩) m m, d31, d32, d33, d34, d35, d36, d37, d38, d39, d40, d41, d42, d43, d44, d45, d46, d47, d48, d49, d50, d51, d52, d53, d54, d55, d56, d57, d58, d59, d60, d61, d62, d63, d64, d65, d66, d67, d68, d69, d70, d71, d72, d73, d74, d75, d76, d77, d78, d79, d80, d81, d82, d83, d84, d85, d86, d87, d88, d89, d90, d91, d92, d93, d94, d95, d96, d97, d98, d99, d100, d101, d102, d103, d104, d105, d106, d107, d108, d109, d110, d111, d112, d113, d114, d115, d116, d117, d118, d119, d120, d121, d122, d123, d124, d125, d126, d127, d128, d129, d130, d131, d132, d133, d134, d135, d136, d137, d138, d139, d140, d141, d142, d143, d144, d145, d146, d147, d148, d149, d150, d151, d152, d153, d154, d155, d156, d157, d158, d159, d160, d161, d162, d163, d164, d165, d166, d167, d168, d169, d170, d171, d172, d173, d174, d175, d176, d177, d178, d179, d180, d181, d182, d183, d184, d185, d186, d187, d188, d189, d190, d191, d192, d193, d194, d195, d196, d197, d198, d199, d200, d201, d202, d203, d204, d205, d206, d207, d208, d209, d210, d211, d212, d213, d214, d215, d216, d217, d218, d219, d220, d221, d222, d223, d224, d225, d226, d227, d228, d229, d230, d231, d232, d233, d234, d235, d236, d237, d238, d239, d240, d241, d242, d243, d244, d245, d246, d247, d248, d249, d250, d251, d252, d253, d254, d255, d256, d257, d258, d259, d260, d261, d262, d263, d264, d265, d266, d267, d268, d269, d270, d271, d272, d273, d274, d275, d276, d277, d278, d279, d280, d281, d282, d283, d284, d285, d286, d287, d288, d289, d290, d291, d292, d293, d294, d295, d296, d297, d298, d299, d300, d301, d302, d303, d304, d305, d306, d307, d308, d309, d310, d311, d312, d313, d314, d315, d316, d317, d318, d319, d320, d321, d322, d323, d324, d325, d326, d327, d328, d329, d330, d331, d332, d333, d334, d335, d336, d337, d338, d339, d340, d341, d342, d343, d344, d345, d346, d347, d348, d349, d350], []⟩ w := by
  conv => arg 2; whnf
  conv at hK => enter [a, w, 1, 2]; whnf
  obtain ⟨i0, hi, hz0, hz1, hz2⟩ := info_parts info21
  -- behind the three stores
  have hw3 : ∃ w3, w3 = ((w.setCell ⟨gd, 6, none⟩ (.slice (some ⟨gst, 0, none⟩) (T + 1) (T + 1))).setCell ⟨gd, 5, none⟩ (.slice (some ⟨gh, 0, none⟩) m m)).setCell ⟨gd, 4, none⟩ (.slice (some ⟨ga, 0, none⟩) m m) := ⟨_, rfl⟩
  obtain ⟨w3, hw3⟩ := hw3
  have tt : Tch [gd] w w3 := by
    rw [hw3]
    exact (((Tch.refl [gd] w).setCell (p := ⟨gd, 6, none⟩) (.inl (by simp)) _).setCell (p := ⟨gd, 5, none⟩) (.inl (by simp)) _).setCell (p := ⟨gd, 4, none⟩) (.inl (by simp)) _
  have hd3 : Blk w3 gd 29 [.pointer none, .int .i32 n, .slice al L cl, .int .i32 0, .slice (some ⟨ga, 0, none⟩) m m, .slice (some ⟨gh, 0, none⟩) m m, .slice (some ⟨gst, 0, none⟩) (T + 1) (T + 1)] := by
    rw [hw3]
    exact ((hd.set 6 _).set 5 _).set 4 _
  have dw3 : DW w3 gd ga gh gst m T (T + 1) n L := ⟨⟨hd3.cell 1, al, cl, hd3.cell 2⟩, hd3.cell 4, hd3.cell 5, hd3.cell 6⟩
  have h63 : Src w3 v6 tka := Src.touchE h6 tt (fun hne g hg hm => o6 hne g hg (by simpa using hm))
  have h73 : Src w3 v7 pta := Src.touchE h7 tt (fun hne g hg hm => o7 hne g hg (by simpa using hm))
  have h53 : Src w3 (.slice a5 n5 c5) dga := Src.touchE h5 tt (fun hne g hg hm => o5 hne g hg (by simpa using hm))
  have hrow3 := hrow.touch tt (fun g hg hm => by have : gh = g := Option.some.inj hg; exact hgh (by rw [this]; simpa using hm))
  have hst3 := hst.touch tt (fun g hg hm => by have : gst = g := Option.some.inj hg; exact hgst (by rw [this]; simpa using hm))
  have hb3 : Below w0.heap.size w0 w3 := hb.trans (tt.below hb.size (by simpa using hBd))
  have hsz3 := tt.size
  have c4 := hd.cell 4
  have c5' := hd.cell 5
  have c6 := hd.cell 6
  have cf := hd.frozen
  simp only [List.getElem?_cons_succ, List.getElem?_cons_zero] at c4 c5' c6
  have HW3 := hide hw3
  have H6 := hide h63
  have H7 := hide h73
  have H5 := hide h53
  have HD := hide dw3
  have HR := hide hrow3
  have HST := hide hst3
  have HSS := hide hS
  have HB := hide hb3
  have HDG := hide hdg
  have HH := hide hhs
  clear h6 h7 h5 hd hrow hst hS hb hdg hhs hw3 tt hd3 dw3 h63 h73 h53 hrow3 hst3 hb3 hgh hgst o5 o6 o7
  go_upto_region 36 with fail
  rw [← HW3.out]
  clear HW3 c4 c5' c6 cf
  go_wp2_with (first | (refine wpList_make_full _ rfl (.tmp 197) (.tmp 197) 23 rfl w3.heap.size 21 i0 (.int .i32 0) 1 Yba.underlying23 hi hz0 hz1 .i32 .i32 _ _ T rfl rfl rfl rfl (by rw [hz2]; omega) (by unfold maxLen; omega) (Nat.le_refl _) ?_; intro w4 hown4 hgr4) | fail)
  have R0 : RelD w3.heap.size T w3 w4 := ⟨_, Own.made hown4, fun y hy => by rw [List.eq_of_mem_replicate hy]; omega, (Tch.refl _ _).of_grownBy hgr4 (by simp)⟩
  have HR0 := hide R0
  have hl5 := hide (Src.at H5.out)
  clear hown4 hgr4 R0
  go_loopw [201] (fun t wr => ∃ k : Nat, k ≤ T ∧ t = .int .i64 k ∧ RelD w3.heap.size T w3 wr) (fun t _ => T - (intOf t).toNat)
  case atStart => exact ⟨0, Nat.zero_le _, rfl, HR0.out⟩
  case round =>
    clear HR0
    obtain ⟨k, hk, rfl, hR⟩ := hrel
    have HRk := hide hR
    by_cases hlt : k < T
    · obtain ⟨v0, cv⟩ := hR.cell hlt
      have fz := hR.frozen k
      by_cases hd5 : k < n5
      · obtain ⟨b, off, x, ha, hx, hcx⟩ := hl5.out.2 k hd5
        subst ha
        have hxb := HDG.out x (List.mem_of_getElem? hx)
        obtain ⟨l, _, _, tR⟩ := hR
        have cx := tR.cell hcx (by simp)
        have HXB := hide hxb
        clear tR hcx hx hxb
        go_wp2_with fail
        go_roundw
        case rel => exact ⟨k + 1, by omega, by go_num, HRk.out.step (Nat.le_refl _) k HXB.out⟩
        case measure => simp [intOf]; omega
      · clear hR
        go_wp2_with fail
        go_roundw
        case rel => exact ⟨k + 1, by omega, by go_num, HRk.out.step (Nat.le_refl _) k (by omega)⟩
        case measure => simp [intOf]; omega
    · obtain ⟨l, q1, q2, q3⟩ := hR
      have Q1 := hide q1
      have Q2 := hide q2
      have Q3 := hide q3
      have hB3 : B ≤ w3.heap.size := by omega
      clear q1 q2 q3 HRk
      go_upto_region 44 with fail
      refine segE _ _ _ _ _ _ _ _ _ _ _ _ _ _ _ _ _ _ _ _ _ _ _ _ _ _ _ _ _ _ _ _ _ _ _ _ _ _ _ _ _ _ _ _ _ _ _ _ _ _ _ _ _ _ _ _ _ _ _ _ _ _ _ _ _ _ _ _ _ _ _ _ _ _ _ _ _ _ _ _ _ _ _ _ _ _ _ _ _ _ _ _ _ _ _ _ _ _ _ _ _ _ _ _ _ _ _ _ _ _ _ _ _ _ _ _ _ _ _ _ _ _ _ _ _ _ _ _ _ _ _ _ _ _ _ _ _ _ _ _ _ _ _ _ _ _ _ _ _ _ _ _ _ _ _ _ _ _ _ _ _ _ _ _ _ _ _ _ _ _ _ _ _ _ _ _ _ _ _ _ _ _ _ _ _ _ _ _ _ _ _ _ _ _ _ _ _ _ _ _ _ _ _ _ _ _ _ _ _ _ _ _ _ _ _ _ _ _ _ _ _ _ _ _ _ _ _ _ _ _ _ _ _ _ _ _ _ _ _ _ _ _ _ _ _ _ _ _ _ _ _ _ _ _ _ _ _ _ _ _ _ _ _ _ _ _ _ _ _ _ _ _ _ _ _ _ _ _ _ _ _ _ _ _ _ _ _ _ _ _ _ _ _ _ _ _ _ _ _ _ _ _ _ _ _ _ _ _ _ _ _ _ _ _ _ _ _ _ _ _ _ _ _ _ _ _ _ _ _ _ _ _ _ _ _ _ _ _ _ _ _ B gd w3.heap.size T ga gst (T + 1) gh m T L n a3 v6 v7 l hs st tka pta w0 wr (Src.keep H6.out Q3.out) (Src.keep H7.out Q3.out) (DW.keep HD.out Q3.out) (Q1.out.mono hB3) (Own.keep HR.out Q3.out) (Own.keep HST.out Q3.out) HSS.out ha3 hT0 hT hL0 hL hn1 htT hm Q2.out HH.out l1 l2 (Tch.below0 HB.out Q3.out) (Nat.le_trans hB3 Q3.out.size) _ ?_
      assumption
end Go.Proofs.Ybulkaxc.Seg
