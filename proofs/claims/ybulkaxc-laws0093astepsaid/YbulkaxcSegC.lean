/-
  LawS0093AStep, the walk's segment: heads and arcs are laid by their starts.
-/
import Derived.Test.YbulkaxcSegD
import Derived.Test.YbulkaxcCopy
namespace Go.Proofs.Ybulkaxc.Seg
open Go Go.RowKit Go.Proofs.Ybulkaxc.Mem Go.Proofs.Ybulkaxc.Step Go.Proofs.Ybulkaxc.Clone
set_option linter.unusedVariables false

theorem info34 : (Yba.prog.info? 34).map (fun i => (i.zero, i.size, i.bytes)) = some (some (.agg #[.int .i32 0, .int .i32 0, .int .u8 0, .int .i32 0, .int .i32 0, .int .i64 0]), 6, 32) := by kernel_rfl
theorem size21 : (Yba.prog.info? 21).map (·.size) = some 1 := by kernel_rfl

/-- A slice of arcs that came in: its pairs of bytes. -/
def Arcs (w : World) (a : Option Addr) (n : Nat) (xs : List (Nat × Nat)) : Prop :=
  xs.length = n ∧ ∀ (k f t : Nat), xs[k]? = some (f, t) → ∃ b off, a = some ⟨b, off, none⟩ ∧ w.cell? ⟨b, off + k * 2, none⟩ = some (.int .u8 (f : Int)) ∧ w.cell? ⟨b, off + k * 2 + 1, none⟩ = some (.int .u8 (t : Int)) ∧ f ≤ 255 ∧ t ≤ 255
theorem Arcs.keep {w w' : World} {a : Option Addr} {n : Nat} {xs : List (Nat × Nat)} (h : Arcs w a n xs) (t : Tch [] w w') : Arcs w' a n xs :=
  ⟨h.1, fun k f u hk => by
    obtain ⟨b, off, e, c1, c2, r⟩ := h.2 k f u hk
    exact ⟨b, off, e, t.cell c1 (by simp), t.cell c2 (by simp), r⟩⟩
/-- The tails. -/
def tails (T : Nat) (xs : List (Nat × Nat)) : List Nat := xs.map fun x => x.1 % T
theorem tails_at {T : Nat} {xs : List (Nat × Nat)} {k f t : Nat} (h : xs[k]? = some (f, t)) : (tails T xs)[k]? = some (f % T) := by
  unfold tails; rw [List.getElem?_map, h]; rfl

def RelC (W gf gh ga T m : Nat) (fs : List Nat) (w : World) (k : Nat) (wr : World) : Prop :=
  (∃ fl, Own wr W (.slice (some ⟨gf, 0, none⟩) T T) fl ∧ ∀ f, f < T → fl[f]? = some ((below fs f + (fs.take k).count f : Nat) : Int)) ∧
  (∃ hl, Own wr W (.slice (some ⟨gh, 0, none⟩) m m) hl ∧ ∀ x ∈ hl, 0 ≤ x ∧ x < T) ∧
  (∃ cs, Blk wr ga 34 cs ∧ cs.length = m * 6) ∧ Tch [] w wr

theorem made34 {w' : World} {B m g : Nat} (h : w'.ownsRow B 34 6 (.slice (some ⟨g, 0, none⟩) m m) m (madeCells (Value.agg #[.int .i32 0, .int .i32 0, .int .u8 0, .int .i32 0, .int .i32 0, .int .i64 0]).cells (m * 6)).toList) : ∃ cs, Blk w' g 34 cs ∧ cs.length = m * 6 := by
  rcases h.2 with ⟨e, _⟩ | ⟨g', cap, cur, e, _, hg, _, _, hcs, _⟩
  · cases e
  · cases e
    exact ⟨cur.toList, by unfold Blk; simpa using hg, by simpa using hcs⟩

theorem relC_step {gf gh ga T m k q f t : Nat} {fs : List Nat} {w wr : World} {fl hl : List Int} {cs : List Value} {o : Obj}
    (q1 : Own wr gf (.slice (some ⟨gf, 0, none⟩) T T) fl) (q2 : ∀ f, f < T → fl[f]? = some ((below fs f + (fs.take k).count f : Nat) : Int))
    (q3 : Own wr gf (.slice (some ⟨gh, 0, none⟩) m m) hl) (q4 : ∀ x ∈ hl, 0 ≤ x ∧ x < T) (q5 : Blk wr ga 34 cs) (q6 : cs.length = m * 6) (q7 : Tch [] w wr)
    (n1 : gf ≠ gh) (n2 : gf ≠ ga) (n3 : gh ≠ ga) (hw : w.heap.size = gf) (hgh : gf ≤ gh) (hga : gf ≤ ga) (hT : 1 ≤ T) (htl : fs[k]? = some (f % T)) (hq : below fs (f % T) + (fs.take k).count (f % T) = q) :
    RelC gf gf gh ga T m fs w (k + 1) (((((((((wr.setCell ⟨gh, q, none⟩ (.int .i32 ((t : Int) % (T : Int)))).setCell ⟨ga, q * 6, none⟩ (.int .i32 ((f : Int) % (T : Int)))).setCell ⟨ga, q * 6 + 1, none⟩ (.int .i32 ((t : Int) % (T : Int)))).setCell ⟨ga, q * 6 + 2, none⟩ (.int .u8 0)).setCell ⟨ga, q * 6 + 3, none⟩ (.int .i32 0)).setCell ⟨ga, q * 6 + 4, none⟩ (.int .i32 0)).setCell ⟨ga, q * 6 + 5, none⟩ (.int .i64 0)).setCell ⟨gf, f % T, none⟩ (.int .i32 ((q : Int) + 1))).alloc o) := by
  have a1 : Off (.slice (some ⟨gf, 0, none⟩) T T) gh := fun e => n1 (Option.some.inj e)
  have a2 : Off (.slice (some ⟨gf, 0, none⟩) T T) ga := fun e => n2 (Option.some.inj e)
  have b1 : Off (.slice (some ⟨gh, 0, none⟩) m m) ga := fun e => n3 (Option.some.inj e)
  have b2 : Off (.slice (some ⟨gh, 0, none⟩) m m) gf := fun e => n1 (Option.some.inj e).symm
  refine ⟨⟨_, ((((((((q1.setOff (p := ⟨gh, q, none⟩) _ a1).setOff (p := ⟨ga, q * 6, none⟩) _ a2).setOff (p := ⟨ga, q * 6 + 1, none⟩) _ a2).setOff (p := ⟨ga, q * 6 + 2, none⟩) _ a2).setOff (p := ⟨ga, q * 6 + 3, none⟩) _ a2).setOff (p := ⟨ga, q * 6 + 4, none⟩) _ a2).setOff (p := ⟨ga, q * 6 + 5, none⟩) _ a2).set (f % T) _).alloc _, ?_⟩,
    ⟨_, ((((((((q3.set q _).setOff (p := ⟨ga, q * 6, none⟩) _ b1).setOff (p := ⟨ga, q * 6 + 1, none⟩) _ b1).setOff (p := ⟨ga, q * 6 + 2, none⟩) _ b1).setOff (p := ⟨ga, q * 6 + 3, none⟩) _ b1).setOff (p := ⟨ga, q * 6 + 4, none⟩) _ b1).setOff (p := ⟨ga, q * 6 + 5, none⟩) _ b1).setOff (p := ⟨gf, f % T, none⟩) _ b2).alloc _, ?_⟩,
    ⟨_, (((((((((q5.other (p := ⟨gh, q, none⟩) (Ne.symm n3) _).set (q * 6) _).set (q * 6 + 1) _).set (q * 6 + 2) _).set (q * 6 + 3) _).set (q * 6 + 4) _).set (q * 6 + 5) _).other (p := ⟨gf, f % T, none⟩) (Ne.symm n2) _).alloc _), ?_⟩, ?_⟩
  · intro f' hf'
    rw [count_snoc htl f', List.getElem?_set]
    by_cases e : f % T = f'
    · rw [if_pos e, if_pos (by rw [q1.len]; omega), if_pos e, ← e]
      congr 1
      omega
    · rw [if_neg e, if_neg e, q2 f' hf']; simp
  · intro x hx
    rcases List.mem_or_eq_of_mem_set hx with h | h
    · exact q4 x h
    · rw [h]; exact ⟨Int.emod_nonneg _ (by omega), Int.emod_lt_of_pos _ (by omega)⟩
  · simp [q6]
  · exact ((((((((q7.setCell (p := ⟨gh, q, none⟩) (.inr (by rw [hw]; exact hgh)) _).setCell (p := ⟨ga, q * 6, none⟩) (.inr (by rw [hw]; exact hga)) _).setCell (p := ⟨ga, q * 6 + 1, none⟩) (.inr (by rw [hw]; exact hga)) _).setCell (p := ⟨ga, q * 6 + 2, none⟩) (.inr (by rw [hw]; exact hga)) _).setCell (p := ⟨ga, q * 6 + 3, none⟩) (.inr (by rw [hw]; exact hga)) _).setCell (p := ⟨ga, q * 6 + 4, none⟩) (.inr (by rw [hw]; exact hga)) _).setCell (p := ⟨ga, q * 6 + 5, none⟩) (.inr (by rw [hw]; exact hga)) _).setCell (p := ⟨gf, f % T, none⟩) (.inr (by rw [hw]; exact Nat.le_refl _)) _).alloc _

set_option maxRecDepth 100000 in
set_option maxHeartbeats 2000000 in
theorem segC (d0 d1 d2 d8 d9 d10 d11 d12 d13 d14 d15 d16 d17 d19 d23 d24 d25 d27 d28 d29 d30 d31 d32 d33 d34 d35 d36 d37 d38 d39 d40 d41 d42 d43 d44 d45 d46 d47 d48 d49 d50 d51 d52 d53 d54 d55 d56 d57 d58 d59 d60 d61 d62 d63 d64 d65 d66 d67 d68 d69 d70 d71 d72 d73 d74 d75 d76 d77 d78 d79 d80 d81 d82 d83 d84 d85 d86 d87 d88 d89 d90 d91 d92 d93 d94 d95 d96 d97 d98 d99 d100 d101 d102 d103 d104 d105 d106 d107 d108 d109 d110 d111 d112 d113 d114 d115 d116 d117 d118 d119 d120 d121 d122 d123 d124 d125 d126 d127 d128 d129 d130 d131 d132 d133 d134 d135 d136 d137 d138 d139 d140 d141 d142 d143 d144 d145 d146 d147 d148 d149 d150 d151 d152 d153 d154 d155 d156 d157 d158 d159 d160 d161 d162 d163 d164 d165 d166 d167 d168 d169 d170 d171 d172 d173 d174 d175 d176 d177 d178 d179 d180 d181 d182 d183 d184 d185 d186 d187 d188 d189 d190 d191 d192 d193 d194 d195 d196 d197 d198 d199 d200 d201 d202 d203 d204 d205 d206 d207 d208 d209 d210 d211 d212 d213 d214 d215 d216 d217 d218 d219 d220 d221 d222 d223 d224 d225 d226 d227 d228 d229 d230 d231 d232 d233 d234 d235 d236 d237 d238 d239 d240 d241 d242 d243 d244 d245 d246 d247 d248 d249 d250 d251 d252 d253 d254 d255 d256 d257 d258 d259 d260 d261 d262 d263 d264 d265 d266 d267 d268 d269 d270 d271 d272 d273 d274 d275 d276 d277 d278 d279 d280 d281 d282 d283 d284 d285 d286 d287 d288 d289 d290 d291 d292 d293 d294 d295 d296 d297 d298 d299 d300 d301 d302 d303 d304 d305 d306 d307 d308 d309 d310 d311 d312 d313 d314 d315 d316 d317 d318 d319 d320 d321 d322 d323 d324 d325 d326 d327 d328 d329 d330 d331 d332 d333 d334 d335 d336 d337 d338 d339 d340 d341 d342 d343 d344 d345 d346 d347 d348 d349 d350 : Value) (B gd gst m T L n5 c5 c4 cl : Nat) (a4 a5 al : Option Addr) (n a3 : Int) (v6 v7 x4 x5 x6 : Value) (xs : List (Nat × Nat)) (st dga tka pta : List Int) (w0 w : World)
    (h4 : Arcs w a4 m xs) (h6 : Src w v6 tka) (h7 : Src w v7 pta) (h5 : Src w (.slice a5 n5 c5) dga) (hd : Blk w gd 29 [.pointer none, .int .i32 n, .slice al L cl, .int .i32 0, x4, x5, x6])
    (hst : Own w B (.slice (some ⟨gst, 0, none⟩) (T + 1) (T + 1)) st) (hS : ∀ i, i ≤ T → st[i]? = some ((below (tails T xs) i : Nat) : Int)) (hgst : gst ≠ gd) (hBd : w0.heap.size ≤ gd)
    (ha3 : 0 ≤ a3 ∧ a3 ≤ 255) (hT0 : 1 ≤ T) (hT : T ≤ 1000) (hL0 : 1 ≤ L) (hL : L ≤ 100) (hn1 : 0 ≤ n * (L : Int)) (htT : n * (L : Int) ≤ T) (hm : m ≤ 2000) (hn5 : n5 ≤ 2000)
    (hdg : ∀ y ∈ dga, -2147483648 ≤ y ∧ y ≤ 2147483647) (o5 : dga ≠ [] → ∀ g, (Value.slice a5 n5 c5).ownBlock = some g → g ≠ gd) (o6 : tka ≠ [] → ∀ g, v6.ownBlock = some g → g ≠ gd) (o7 : pta ≠ [] → ∀ g, v7.ownBlock = some g → g ≠ gd)
    (l1 : tka.length ≤ 5000) (l2 : pta.length ≤ 5000) (hb : Below w0.heap.size w0 w) (hBw : B ≤ w.heap.size)
    (K : Act → World → Prop) (hK : ∀ a w, Code.wp Yba.prog (snd ((Yba.f3.body.bind (tailAt 20)).getD .skip)) (Post w0) a w → K a w) :
    Code.wp Yba.prog (fst ((Yba.f3.body.bind (tailAt 20)).getD .skip)) (Exit.then K (Post w0)) ⟨#[d0, d1, d2, .int .u8 a3, .slice a4 m c4, .slice a5 n5 c5, v6, v7, d8, d9, d10, d11, d12, d13, d14, d15, d16, d17, .int .i64 (L : Int), d19, .int .i32 (n * (L : Int)), .int .i32 (T : Int), .pointer (some ⟨gd, 0, none⟩), d23, d24, d25, .slice (some ⟨gst, 0, none⟩) (T + 1) (T + 1), d27, d28, d29, d30, d31, d32, d33, d34, d35, d36, d37, d38, d39, d40, d41, d42, d43, d44, d45, d46, d47, d48, d49, d50, d51, d52, d53, d54, d55, d56, d57, d58, d59, d60, d61, d62, d63, d64, d65, d66, d67, d68, d69, d70, d71, d72, d73, d74, d75, d76, d77, d78, d79, d80, d81, d82, d83, d84, d85, d86, d87, d88, d89, d90, d91, d92, d93, d94, d95, d96, d97, d98, d99, d100, d101, d102, d103, d104, d105, d106, d107, d108, d109, d110, d111, d112, d113, d114, d115, d116, d117, d118, d119, d120, d121, d122, d123, d124, d125, d126, d127, d128, d129, d130, d131, d132, d133, d134, d135, d136, d137, d138, d139, d140, d141, d142, d143, d144, d145, d146, d147, d148, d149, d150, d151, d152, d153, d154, d155, d156, d157, d158, d159, d160, d161, d162, d163, d164, d165, d166, d167, d168, d169, d170, d171, d172, d173, d174, d175, d176, d177, d178, d179, d180, d181, d182, d183, d184, d185, d186, d187, d188, d189, d190, d191, d192, d193, d194, d195, d196, d197, d198, d199, d200, d201, d202, d203, d204, d205, d206, d207, d208, d209, d210, d211, d212, d213, d214, d215, d216, d217, d218, d219, d220, d221, d222, d223, d224, d225, d226, d227, d228, d229, d230, d231, d232, d233, d234, d235, d236, d237, d238, d239, d240, d241, d242, d243, d244, d245, d246, d247, d248, d249, d250, d251, d252, d253, d254, d255, d256, d257, d258, d259, d260, d261, d262, d263, d264, d265, d266, d267, d268, d269, d270, d271, d272, d273, d274, d275, d276, d277, d278, d279, d280, d281, d282, d283, d284, d285, d286, d287, d288, d289, d290, d291, d292, d293, d294, d295, d296, d297, d298, d299, d300, d301, d302, d303, d304, d305, d306, d307, d308, d309, d310, d311, d312, d313, d314, d315, d316, d317, d318, d319, d320, d321, d322, d323, d324, d325, d326, d327, d328, d329, d330, d331, d332, d333, d334, d335, d336, d337, d338, d339, d340, d341, d342, d343, d344, d345, d346, d347, d348, d349, d350], []⟩ w := by
  conv => arg 2; whnf
  conv at hK => enter [a, w, 1, 2]; whnf
  obtain ⟨i0, hi, hz0, hz1, hz2⟩ := info_parts info21
  obtain ⟨j0, ji, jz0, jz1, jz2⟩ := info_parts info34
  have HD := hide hd
  have hgdlt := hd.lt
  have hgstlt := (hst.lt (g := gst) rfl).2
  have H4 := hide h4
  have H6 := hide h6
  have H7 := hide h7
  have H5 := hide h5
  have HST := hide hst
  have HSS := hide hS
  have HB := hide hb
  have HDG := hide hdg
  have HO5 := hide o5
  have HO6 := hide o6
  have HO7 := hide o7
  clear hd h4 h6 h7 h5 hst hS hb hdg o5 o6 o7
  have hl4 := H4.out.1
  have HL4 := hide hl4
  clear hl4
  have hstT : (st.take T).length = T := by have := HST.out.len; simp; omega
  have hsrcT : ∀ W, Tch [] w W → ∀ (j : Nat) (x : Int), (st.take T)[j]? = some x → W.cell? ((⟨gst, 0, none⟩ : Addr).add j) = some (.int .i32 x) := by
    intro W ht j x hx
    rw [List.getElem?_take] at hx
    split at hx
    · obtain ⟨y, hy, hc⟩ := (Own.keep HST.out ht).cell (i := j) ((List.getElem?_eq_some_iff.1 hx).1)
      rw [hx] at hy; cases hy
      rw [Go.WideShapes.add_plain, Nat.zero_add]; exact hc
    · cases hx
  have HSRCT := hide hsrcT
  have HSTT := hide hstT
  clear hsrcT hstT
  go_wp2_with (first
    | (refine wpList_make_full _ rfl (.tmp 133) (.tmp 133) 23 rfl w.heap.size 21 i0 (.int .i32 0) 1 Yba.underlying23 hi hz0 hz1 .i32 .i32 _ _ T rfl rfl rfl rfl (by rw [hz2]; omega) (by unfold maxLen; omega) (Nat.le_refl _) ?_; intro w1 hown1 hgr1; have t1 : Tch [] w w1 := (Tch.refl _ _).of_grownBy hgr1 (by simp); have o1 := Own.made hown1; have O1 := hide o1; have T1 := hide t1; clear hown1 hgr1 o1 t1)
    | fail)
  obtain ⟨w2, hr2, o2, t2⟩ := run_copy32 (P := Yba.prog) w1 23 3 Yba.underlying23 size21 (cs := T + 1) O1.out HSTT.out (HSRCT.out _ T1.out)
  rw [hr2]
  have t02 : Tch [] w w2 := T1.out.trans t2 (fun x hx => .inr (by simp at hx; omega))
  have O2 := hide o2
  have T2 := hide t02
  have z2 := t02.size
  clear o2 t2 t02 hr2 O1
  go_wp2_with (first
    | (refine wpList_make_full _ rfl (.tmp 141) (.tmp 141) 23 rfl w2.heap.size 21 i0 (.int .i32 0) 1 Yba.underlying23 hi hz0 hz1 .i64 .i64 _ _ m rfl rfl rfl rfl (by rw [hz2]; omega) (by unfold maxLen; omega) (Nat.le_refl _) ?_; intro w3 hown3 hgr3; have t3 : Tch [] w2 w3 := (Tch.refl _ _).of_grownBy hgr3 (by simp); have o3 := Own.made hown3; have O3 := hide o3; have T3 := hide t3; clear hown3 hgr3 o3 t3)
    | (refine wpList_make_full _ rfl (.tmp 144) (.tmp 144) 27 rfl w3.heap.size 34 j0 (.agg #[.int .i32 0, .int .i32 0, .int .u8 0, .int .i32 0, .int .i32 0, .int .i64 0]) 6 Yba.underlying27 ji jz0 jz1 .i64 .i64 _ _ m rfl rfl rfl rfl (by rw [jz2]; omega) (by unfold maxLen; omega) (Nat.le_refl _) ?_; intro w4 hown4 hgr4; have t4 : Tch [] w3 w4 := (Tch.refl _ _).of_grownBy hgr4 (by simp); have o4 := made34 hown4; have O4 := hide o4; have T4 := hide t4; clear hown4 hgr4 o4 t4)
    | fail)
  have z3 := T3.out.size
  have z4 := T4.out.size
  have y1 := (O2.out.lt (g := w.heap.size) rfl).2
  have y3 := (O3.out.lt (g := w2.heap.size) rfl).2
  have R0 : RelC w.heap.size w.heap.size w2.heap.size w3.heap.size T m (tails T xs) w 0 w4 := by
    refine ⟨⟨_, Own.keep (Own.keep O2.out T3.out) T4.out, fun f hf => ?_⟩, ⟨_, (Own.keep O3.out T4.out).mono (by omega), fun x hx => ?_⟩, O4.out, (T2.out.trans T3.out (by simp)).trans T4.out (by simp)⟩
    · rw [List.getElem?_take, if_pos hf, HSS.out f (by omega)]; simp
    · rw [List.eq_of_mem_replicate hx]; omega
  have HR0 := hide R0
  have nf1 : w.heap.size ≠ w2.heap.size := by omega
  have nf2 : w.heap.size ≠ w3.heap.size := by omega
  have nf3 : w2.heap.size ≠ w3.heap.size := by omega
  clear R0 O2 O3 O4 T1 T2 T3 T4 HSRCT HSTT
  have le1 : w.heap.size ≤ w2.heap.size := by omega
  have le2 : w.heap.size ≤ w3.heap.size := by omega
  generalize hgf : w.heap.size = gf at *
  generalize hgh : w2.heap.size = gh at *
  generalize hga : w3.heap.size = ga at *
  have HGF := hide hgf
  clear hgf hgh hga
  go_loopw [148] (fun t wr => ∃ k : Nat, k ≤ m ∧ t = .int .i64 k ∧ RelC gf gf gh ga T m (tails T xs) w k wr) (fun t _ => m - (intOf t).toNat)
  case atStart => exact ⟨0, Nat.zero_le _, rfl, HR0.out⟩
  case round =>
    clear HR0
    obtain ⟨k, hk, rfl, ⟨fl, q1, q2⟩, ⟨hl, q3, q4⟩, ⟨cs, q5, q6⟩, q7⟩ := hrel
    by_cases hlt : k < m
    · obtain ⟨⟨f, t⟩, hx⟩ : ∃ x, xs[k]? = some x := ⟨xs[k]'(by rw [HL4.out]; exact hlt), List.getElem?_eq_getElem _⟩
      obtain ⟨b, off, ha4, cf, ct, bf, bt⟩ := (Arcs.keep H4.out q7).2 k f t hx
      subst ha4
      have hfT : f % T < T := Nat.mod_lt _ (by omega)
      have htT' : t % T < T := Nat.mod_lt _ (by omega)
      have htl := tails_at (T := T) hx
      have hpl := place_lt htl
      have htlen : (tails T xs).length = m := by unfold tails; rw [List.length_map]; exact HL4.out
      have e1 := q2 (f % T) hfT
      rw [htlen] at hpl
      generalize hq : below (tails T xs) (f % T) + ((tails T xs).take k).count (f % T) = q at *
      obtain ⟨x1, ex1, cfl⟩ := q1.cell (i := f % T) (by rw [q1.len]; exact hfT)
      rw [e1] at ex1
      cases ex1
      have ffz := q1.frozen (f % T)
      obtain ⟨x2, _, chs⟩ := q3.cell (i := q) (by rw [q3.len]; exact hpl)
      have hfz := q3.frozen q
      have cas : ∀ r, r < 6 → ∃ v, wr.cell? ⟨ga, q * 6 + r, none⟩ = some v := fun r hr => ⟨cs[q * 6 + r]'(by rw [q6]; omega), by rw [q5.cell]; exact List.getElem?_eq_getElem _⟩
      obtain ⟨w60, ca0⟩ := cas 0 (by omega)
      obtain ⟨w61, ca1⟩ := cas 1 (by omega)
      obtain ⟨w62, ca2⟩ := cas 2 (by omega)
      obtain ⟨w63, ca3⟩ := cas 3 (by omega)
      obtain ⟨w64, ca4⟩ := cas 4 (by omega)
      obtain ⟨w65, ca5⟩ := cas 5 (by omega)
      rw [Nat.add_zero] at ca0
      have afz := q5.frozen
      have g1 : gf < wr.heap.size := (q1.lt (g := gf) rfl).2
      have g2 : gh < wr.heap.size := (q3.lt (g := gh) rfl).2
      have g3 : ga < wr.heap.size := q5.lt
      have hql : (q : Int) < (m : Int) := by omega
      have hf255 : (f : Int) ≤ 255 := by omega
      have ht255 : (t : Int) ≤ 255 := by omega
      have Q1 := hide q1
      have Q2 := hide q2
      have Q3 := hide q3
      have Q4 := hide q4
      have Q5 := hide q5
      have Q6 := hide q6
      have Q7 := hide q7
      have HTL := hide htl
      have HQ := hide hq
      have HTLEN := hide htlen
      clear q1 q2 q3 q4 q5 q6 q7 cas htl hq htlen e1 hx
      go_wp2_with fail
      go_roundw
      case rel => exact ⟨k + 1, by omega, by go_num, relC_step Q1.out Q2.out Q3.out Q4.out Q5.out Q6.out Q7.out nf1 nf2 nf3 HGF.out le1 le2 hT0 HTL.out HQ.out⟩
      case measure => simp [intOf]; omega
    · have hss : Starts T m st := by
        intro i hi
        refine ⟨below (tails T xs) i, below (tails T xs) (i + 1), HSS.out i (by omega), HSS.out (i + 1) (by omega), ?_, ?_⟩
        · rw [below_succ]; omega
        · have := below_le (tails T xs) (i + 1)
          have h2 : (tails T xs).length = m := by unfold tails; rw [List.length_map]; exact HL4.out
          omega
      have g2 : gh < wr.heap.size := (q3.lt (g := gh) rfl).2
      have hne1 : gh ≠ gd := by have := HGF.out; omega
      have q3' := q3.mono (B' := B) (by have := HGF.out; omega)
      have Q3 := hide q3'
      have Q4 := hide q4
      have Q7 := hide q7
      have HSTS := hide hss
      have hzz := q7.size
      clear q1 q2 q3 q3' q4 q5 q6 q7 hss
      go_upto_region 33 with fail
      refine segD _ _ _ _ _ _ _ _ _ _ _ _ _ _ _ _ _ _ _ _ _ _ _ _ _ _ _ _ _ _ _ _ _ _ _ _ _ _ _ _ _ _ _ _ _ _ _ _ _ _ _ _ _ _ _ _ _ _ _ _ _ _ _ _ _ _ _ _ _ _ _ _ _ _ _ _ _ _ _ _ _ _ _ _ _ _ _ _ _ _ _ _ _ _ _ _ _ _ _ _ _ _ _ _ _ _ _ _ _ _ _ _ _ _ _ _ _ _ _ _ _ _ _ _ _ _ _ _ _ _ _ _ _ _ _ _ _ _ _ _ _ _ _ _ _ _ _ _ _ _ _ _ _ _ _ _ _ _ _ _ _ _ _ _ _ _ _ _ _ _ _ _ _ _ _ _ _ _ _ _ _ _ _ _ _ _ _ _ _ _ _ _ _ _ _ _ _ _ _ _ _ _ _ _ _ _ _ _ _ _ _ _ _ _ _ _ _ _ _ _ _ _ _ _ _ _ _ _ _ _ _ _ _ _ _ _ _ _ _ _ _ _ _ _ _ _ _ _ _ _ _ _ _ _ _ _ _ _ _ _ _ _ _ _ _ _ _ _ _ _ _ _ _ _ _ _ _ _ _ _ _ _ _ _ _ _ _ _ _ _ _ _ _ _ _ _ _ _ _ _ _ _ _ _ _ _ _ _ _ _ _ _ _ _ _ _ _ _ _ _ _ _ _ _ _ _ _ _ _ _ _ _ _ _ _ _ _ _ _ _ B gd ga gst gh m T L n5 c5 cl a5 al n a3 v6 v7 x4 x5 x6 hl st dga tka pta w0 wr (Src.keep H6.out Q7.out) (Src.keep H7.out Q7.out) (Src.keep H5.out Q7.out) (HD.out.touch Q7.out (by simp)) Q3.out (Own.keep HST.out Q7.out) HSTS.out hne1 hgst hBd ha3 hT0 hT hL0 hL hn1 htT hm hn5 HDG.out Q4.out HO5.out HO6.out HO7.out l1 l2 (Tch.below0 HB.out Q7.out) (by omega) _ ?_
      assumption
end Go.Proofs.Ybulkaxc.Seg
