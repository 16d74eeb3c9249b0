/-
  LawS0093AStep, the walk's segment: the sorter is made, and takes its step.
-/
import Derived.Test.YbulkaxcSegF
import Derived.Laws.EntriesVeiled
namespace Go.Proofs.Ybulkaxc.Seg
open Go Go.RowKit Go.Proofs.Ybulkaxc.Mem Go.Proofs.Ybulkaxc.Step Go.Proofs.Ybulkaxc.Clone
set_option linter.unusedVariables false

/-- What the digraph's fields hold. -/
structure DW (w : World) (gd ga gh gst m T cst : Nat) (n : Int) (L : Nat) : Prop where
  dg : DG w gd n L
  ha : w.cell? ⟨gd, 4, none⟩ = some (.slice (some ⟨ga, 0, none⟩) m m)
  hh : w.cell? ⟨gd, 5, none⟩ = some (.slice (some ⟨gh, 0, none⟩) m m)
  hs : w.cell? ⟨gd, 6, none⟩ = some (.slice (some ⟨gst, 0, none⟩) (T + 1) cst)
theorem DW.keep {w w' : World} {gd ga gh gst m T cst : Nat} {n : Int} {L : Nat} (h : DW w gd ga gh gst m T cst n L) (t : Tch [] w w') : DW w' gd ga gh gst m T cst n L :=
  ⟨h.dg.touch t (by simp), t.cell h.ha (by simp), t.cell h.hh (by simp), t.cell h.hs (by simp)⟩

/-- The row of starts: what the walk wants of it. -/
def Starts (T m : Nat) (st : List Int) : Prop := ∀ k, k < T → ∃ i j : Nat, st[k]? = some (i : Int) ∧ st[k + 1]? = some (j : Int) ∧ i ≤ j ∧ j ≤ m

set_option maxRecDepth 100000 in
set_option maxHeartbeats 1000000 in
theorem segE (d0 d1 d2 d4 d5 d8 d9 d10 d11 d12 d13 d14 d15 d16 d17 d19 d23 d24 d25 d27 d28 d30 d31 d32 d33 d34 d36 d37 d38 d39 d40 d41 d42 d43 d44 d45 d46 d47 d48 d49 d50 d51 d52 d53 d54 d55 d56 d57 d58 d59 d60 d61 d62 d63 d64 d65 d66 d67 d68 d69 d70 d71 d72 d73 d74 d75 d76 d77 d78 d79 d80 d81 d82 d83 d84 d85 d86 d87 d88 d89 d90 d91 d92 d93 d94 d95 d96 d97 d98 d99 d100 d101 d102 d103 d104 d105 d106 d107 d108 d109 d110 d111 d112 d113 d114 d115 d116 d117 d118 d119 d120 d121 d122 d123 d124 d125 d126 d127 d128 d129 d130 d131 d132 d133 d134 d135 d136 d137 d138 d139 d140 d141 d142 d143 d144 d145 d146 d147 d148 d149 d150 d151 d152 d153 d154 d155 d156 d157 d158 d159 d160 d161 d162 d163 d164 d165 d166 d167 d168 d169 d170 d171 d172 d173 d174 d175 d176 d177 d178 d179 d180 d181 d182 d183 d184 d185 d186 d187 d188 d189 d190 d191 d192 d193 d194 d195 d196 d197 d198 d199 d200 d201 d202 d203 d204 d205 d206 d207 d208 d209 d210 d211 d212 d213 d214 d215 d216 d217 d218 d219 d220 d221 d222 d223 d224 d225 d226 d227 d228 d229 d230 d231 d232 d233 d234 d235 d236 d237 d238 d239 d240 d241 d242 d243 d244 d245 d246 d247 d248 d249 d250 d251 d252 d253 d254 d255 d256 d257 d258 d259 d260 d261 d262 d263 d264 d265 d266 d267 d268 d269 d270 d271 d272 d273 d274 d275 d276 d277 d278 d279 d280 d281 d282 d283 d284 d285 d286 d287 d288 d289 d290 d291 d292 d293 d294 d295 d296 d297 d298 d299 d300 d301 d302 d303 d304 d305 d306 d307 d308 d309 d310 d311 d312 d313 d314 d315 d316 d317 d318 d319 d320 d321 d322 d323 d324 d325 d326 d327 d328 d329 d330 d331 d332 d333 d334 d335 d336 d337 d338 d339 d340 d341 d342 d343 d344 d345 d346 d347 d348 d349 d350 : Value) (B gd g35 c35 ga gst cst gh m T L : Nat) (n a3 : Int) (v6 v7 : Value) (old hs st tka pta : List Int) (w0 w : World)
    (h6 : Src w v6 tka) (h7 : Src w v7 pta) (hd : DW w gd ga gh gst m T cst n L)
    (h35 : Own w B (.slice (some ⟨g35, 0, none⟩) T c35) old) (hrow : Own w B (.slice (some ⟨gh, 0, none⟩) m m) hs) (hst : Own w B (.slice (some ⟨gst, 0, none⟩) (T + 1) cst) st) (hS : Starts T m st)
    (ha3 : 0 ≤ a3 ∧ a3 ≤ 255) (hT0 : 1 ≤ T) (hT : T ≤ 1000) (hL0 : 1 ≤ L) (hL : L ≤ 100) (hn1 : 0 ≤ n * (L : Int)) (htT : n * (L : Int) ≤ T) (hm : m ≤ 2000)
    (hold : ∀ y ∈ old, -2147483648 ≤ y ∧ y ≤ 2147483647) (hhs : ∀ x ∈ hs, 0 ≤ x ∧ x < T)
    (l1 : tka.length ≤ 5000) (l2 : pta.length ≤ 5000) (hb : Below w0.heap.size w0 w) (hBw : B ≤ w.heap.size)
    (K : Act → World → Prop) (hK : ∀ a w, Code.wp Yba.prog (snd ((Yba.f3.body.bind (tailAt 44)).getD .skip)) (Post w0) a w → K a w) :
    Code.wp Yba.prog (fst ((Yba.f3.body.bind (tailAt 44)).getD .skip)) (Exit.then K (Post w0)) ⟨#[d0, d1, d2, .int .u8 a3, d4, d5, v6, v7, d8, d9, d10, d11, d12, d13, d14, d15, d16, d17, .int .i64 (L : Int), d19, .int .i32 (n * (L : Int)), .int .i32 (T : Int), .pointer (some ⟨gd, 0, none⟩), d23, d24, d25, .slice (some ⟨gst, 0, none⟩) (T + 1) cst, d27, d28, .slice (some ⟨gh, 0, none⟩) m m, d30, d31, d32, d33, d34, .slice (some ⟨g35, 0, none⟩) T c35, d36, d37, d38, d39, d40, d41, d42, d43, d44, d45, d46, d47, d48, d49, d50, d51, d52, d53, d54, d55, d56, d57, d58, d59, d60, d61, d62, d63, d64, d65, d66, d67, d68, d69, d70, d71, d72, d73, d74, d75, d76, d77, d78, d79, d80, d81, d82, d83, d84, d85, d86, d87, d88, d89, d90, d91, d92, d93, d94, d95, d96, d97, d98, d99, d100, d101, d102, d103, d104, d105, d106, d107, d108, d109, d110, d111, d112, d113, d114, d115, d116, d117, d118, d119, d120, d121, d122, d123, d124, d125, d126, d127, d128, d129, d130, d131, d132, d133, d134, d135, d136, d137, d138, d139, d140, d141, d142, d143, d144, d145, d146, d147, d148, d149, d150, d151, d152, d153, d154, d155, d156, d157, d158, d159, d160, d161, d162, d163, d164, d165, d166, d167, d168, d169, d170, d171, d172, d173, d174, d175, d176, d177, d178, d179, d180, d181, d182, d183, d184, d185, d186, d187, d188, d189, d190, d191, d192, d193, d194, d195, d196, d197, d198, d199, d200, d201, d202, d203, d204, d205, d206, d207, d208, d209, d210, d211, d212, d213, d214, d215, d216, d217, d218, d219, d220, d221, d222, d223, d224, d225, d226, d227, d228, d229, d230, d231, d232, d233, d234, d235, d236, d237, d238, d239, d240, d241, d242, d243, d244, d245, d246, d247, d248, d249, d250, d251, d252, d253, d254, d255, d256, d257, d258, d259, d260, d261, d262, d263, d264, d265, d266, d267, d268, d269, d270, d271, d272, d273, d274, d275, d276, d277, d278, d279, d280, d281, d282, d283, d284, d285, d286, d287, d288, d289, d290, d291, d292, d293, d294, d295, d296, d297, d298, d299, d300, d301, d302, d303, d304, d305, d306, d307, d308, d309, d310, d311, d312, d313, d314, d315, d316, d317, d318, d319, d320, d321, d322, d323, d324, d325, d326, d327, d328, d329, d330, d331, d332, d333, d334, d335, d336, d337, d338, d339, d340, d341, d342, d343, d344, d345, d346, d347, d348, d349, d350], []⟩ w := by
  conv => arg 2; whnf
  conv at hK => enter [a, w, 1, 2]; whnf
  have H6 := hide h6
  have H7 := hide h7
  have HD := hide hd
  have H35 := hide h35
  have HR := hide hrow
  have HST := hide hst
  have HSS := hide hS
  have HB := hide hb
  have HO := hide hold
  have HH := hide hhs
  clear h6 h7 hd h35 hrow hst hS hb hold hhs
  have hp0 : 0 ≤ a3 % (T : Int) := Int.emod_nonneg _ (by omega)
  have hp1 : a3 % (T : Int) < (T : Int) := Int.emod_lt_of_pos _ (by omega)
  go_wp2_with fail
  refine (clone_any _ _ old (by have := H35.out.len; omega) H35.out.src).mono ?_
  rintro e w1 ⟨vi, rfl, k1, t1⟩
  obtain ⟨gi, ci, hvi⟩ : ∃ gi ci, vi = .slice (some ⟨gi, 0, none⟩) T ci := by
    rcases k1.form with ⟨_, e⟩ | ⟨g, cap, e, _⟩
    · have := H35.out.len; rw [e] at this; simp at this; omega
    · have := H35.out.len; rw [this] at e; exact ⟨g, cap, e⟩
  subst hvi
  go_wp2_with fail
  have s6 := Src.keep H6.out (t1.alloc (.cells #[.slice none 0 0] 23))
  refine (clone_any _ v6 tka (by omega) s6).mono ?_
  rintro e w2 ⟨vt, rfl, k2, t2⟩
  obtain ⟨at', nt, ct, hvt⟩ := k2.slice
  subst hvt
  go_wp2_with fail
  have t12 : Tch [] w w2 := (t1.alloc _).trans t2 (by simp)
  refine (clone_any _ v7 pta (by omega) (Src.keep H7.out t12)).mono ?_
  rintro e w3 ⟨vp, rfl, k3, t3⟩
  obtain ⟨ap, np, cp, hvp⟩ := k3.slice
  subst hvp
  have t13 : Tch [] w w3 := t12.trans t3 (by simp)
  have T1 := hide t1
  have T2 := hide t2
  have T3 := hide t3
  have T12 := hide t12
  have T13 := hide t13
  have K1 := hide k1
  have K2 := hide k2
  have K3 := hide k3
  clear t1 t2 t3 t12 t13 k1 k2 k3 s6
  go_wp2_with fail
  generalize a3 % (T : Int) = pz at *
  obtain ⟨p, rfl⟩ := Int.eq_ofNat_of_zero_le hp0
  obtain ⟨i, j, e1, e2, hij, hjm⟩ := HSS.out p (by omega)
  have z1 := T1.out.size
  have z2 := T2.out.size
  have z3 := T3.out.size
  rw [World.size_alloc] at z2
  have bi := K1.out.lt (g := gi) rfl
  have bt : ∀ g, (Value.slice at' nt ct).ownBlock = some g → w1.heap.size + 1 ≤ g ∧ g < w2.heap.size := fun g hg => by have := K2.out.lt hg; rw [World.size_alloc] at this; exact this
  have bp : ∀ g, (Value.slice ap np cp).ownBlock = some g → w2.heap.size ≤ g ∧ g < w3.heap.size := fun g hg => K3.out.lt hg
  have hlen35 := H35.out.len
  have hsw : SW (w3.alloc (.cells #[.pointer (some ⟨gd, 0, none⟩), .slice (some ⟨gi, 0, none⟩) T ci, .func (.func 6) #[] #[.pointer (some ⟨w1.heap.size, 0, none⟩)], .slice at' nt ct, .slice ap np cp] 39)) B w3.heap.size gd w1.heap.size (.slice (some ⟨gi, 0, none⟩) T ci) (.slice at' nt ct) (.slice ap np cp) (.slice none 0 0) old tka pta [] := by
    refine ⟨Blk.new w3 _ 39, (((Blk.new w1 #[.slice none 0 0] 23).touch T2.out (by simp)).touch T3.out (by simp)).alloc _, ?_, ?_, ?_, Own.nil _ _, by rw [World.size_alloc]; omega, by omega, ?_, ?_, ?_, ?_, ?_, ?_, ?_, ?_, ?_, ?_⟩
    · exact ((Own.keep (Own.keep (K1.out.alloc _) T2.out) T3.out).alloc _).mono hBw
    · exact ((Own.keep K2.out T3.out).alloc _).mono (by rw [World.size_alloc]; omega)
    · exact (K3.out.alloc _).mono (by omega)
    · exact ⟨fun e => by have : gi = w3.heap.size := Option.some.inj e; omega, fun e => by have : gi = w1.heap.size := Option.some.inj e; omega⟩
    · exact ⟨fun e => by have := bt _ e; omega, fun e => by have := bt _ e; omega⟩
    · exact ⟨fun e => by have := bp _ e; omega, fun e => by have := bp _ e; omega⟩
    · exact ⟨fun e => by simp [Value.ownBlock] at e, fun e => by simp [Value.ownBlock] at e⟩
    · exact fun k hk e => by have : gi = k := Option.some.inj hk; have := bt _ e; omega
    · exact fun k hk e => by have : gi = k := Option.some.inj hk; have := bp _ e; omega
    · exact fun k hk e => by simp [Value.ownBlock] at e
    · exact fun k hk e => by have := bt _ hk; have := bp _ e; omega
    · exact fun k hk e => by simp [Value.ownBlock] at e
    · exact fun k hk e => by simp [Value.ownBlock] at e
  have hbl : ∀ x, x ∈ bls w3.heap.size w1.heap.size (.slice (some ⟨gi, 0, none⟩) T ci) (.slice at' nt ct) (.slice ap np cp) (.slice none 0 0) → w.heap.size ≤ x := by
    intro x hx
    unfold bls at hx
    simp only [List.mem_cons, List.mem_append, Option.mem_toList] at hx
    rcases hx with h | h | h | h | h | h
    · omega
    · omega
    · have : gi = x := Option.some.inj h; omega
    · have := bt _ h; omega
    · have := bp _ h; omega
    · simp [Value.ownBlock] at h
  have t14 : Tch [] w (w3.alloc (.cells #[.pointer (some ⟨gd, 0, none⟩), .slice (some ⟨gi, 0, none⟩) T ci, .func (.func 6) #[] #[.pointer (some ⟨w1.heap.size, 0, none⟩)], .slice at' nt ct, .slice ap np cp] 39)) := T13.out.alloc _
  have d4 := DW.keep HD.out t14
  have ost := Own.keep HST.out t14
  have ohs := Own.keep HR.out t14
  have lgd : gd < w.heap.size := World.block_lt_of_cell? _ _ HD.out.ha
  have lgst : gst < w.heap.size := (HST.out.lt (g := gst) rfl).2
  have lgh : gh < w.heap.size := (HR.out.lt (g := gh) rfl).2
  have ci1 : ∀ W, Own W B (.slice (some ⟨gst, 0, none⟩) (T + 1) cst) st → W.cell? ⟨gst, p, none⟩ = some (.int .i32 (i : Int)) ∧ W.cell? ⟨gst, p + 1, none⟩ = some (.int .i32 (j : Int)) := by
    intro W hW
    obtain ⟨x, hx, c1⟩ := hW.cell (i := p) ((List.getElem?_eq_some_iff.1 e1).1)
    obtain ⟨y, hy, c2⟩ := hW.cell (i := p + 1) ((List.getElem?_eq_some_iff.1 e2).1)
    rw [e1] at hx; cases hx
    rw [e2] at hy; cases hy
    exact ⟨c1, c2⟩
  have c4 := ci1 _ ost
  have hdf : DF (w3.alloc (.cells #[.pointer (some ⟨gd, 0, none⟩), .slice (some ⟨gi, 0, none⟩) T ci, .func (.func 6) #[] #[.pointer (some ⟨w1.heap.size, 0, none⟩)], .slice at' nt ct, .slice ap np cp] 39)) gd ga gh gst m T cst n L (p : Int) (i : Int) (j : Int) :=
    ⟨d4.dg, d4.ha, d4.hh, d4.hs, by rw [Int.toNat_natCast]; exact c4.1, by rw [Int.toNat_natCast]; exact c4.2⟩
  have eseg : (hs.drop i).take (j - i) = (hs.drop (i : Int).toNat).take ((j : Int) - (i : Int)).toNat := by
    rw [Int.toNat_natCast, show ((j : Int) - (i : Int)).toNat = j - i by omega]
  refine (step_any B w3.heap.size gd w1.heap.size _ _ _ _ old tka pta [] hs ((hs.drop i).take (j - i)) n p i j L T m ga gh gst cst _ hsw hdf hL0 hL hn1 (by omega) hlen35 (by omega) (by omega) (by omega) htT (by omega) (by omega) (by omega) (by omega) ohs eseg HH.out (fun h => by have := hbl _ h; omega) (fun h => by have := hbl _ h; omega) (fun h => by have := hbl _ h; omega) (by omega) (by omega) (by simp)).mono ?_
  rintro e w5 ⟨rfl, vt', vp', vl', k5, t5, f1, f2, f3⟩
  have t15 : Tch [] w w5 := t14.trans t5 (fun x hx => .inr (hbl x hx))
  have ci5 := ci1 _ (Own.keep HST.out t15)
  have K5 := hide k5
  have T15 := hide t15
  have CI5 := hide ci5
  clear hsw hbl t14 d4 ost ohs ci1 c4 hdf k5 t5 f1 f2 f3 t15 ci5 e1 e2 bi bt bp eseg
  go_upto_region 49 with fail
  refine segF _ _ _ _ _ _ _ _ _ _ _ _ _ _ _ _ _ _ _ _ _ _ _ _ _ _ _ _ _ _ _ _ _ _ _ _ _ _ _ _ _ _ _ _ _ _ _ _ _ _ _ _ _ _ _ _ _ _ _ _ _ _ _ _ _ _ _ _ _ _ _ _ _ _ _ _ _ _ _ _ _ _ _ _ _ _ _ _ _ _ _ _ _ _ _ _ _ _ _ _ _ _ _ _ _ _ _ _ _ _ _ _ _ _ _ _ _ _ _ _ _ _ _ _ _ _ _ _ _ _ _ _ _ _ _ _ _ _ _ _ _ _ _ _ _ _ _ _ _ _ _ _ _ _ _ _ _ _ _ _ _ _ _ _ _ _ _ _ _ _ _ _ _ _ _ _ _ _ _ _ _ _ _ _ _ _ _ _ _ _ _ _ _ _ _ _ _ _ _ _ _ _ _ _ _ _ _ _ _ _ _ _ _ _ _ _ _ _ _ _ _ _ _ _ _ _ _ _ _ _ _ _ _ _ _ _ _ _ _ _ _ _ _ _ _ _ _ _ _ _ _ _ _ _ _ _ _ _ _ _ _ _ _ _ _ _ _ _ _ _ _ _ _ _ _ _ _ _ _ _ _ _ _ _ _ _ _ _ _ _ _ _ _ _ _ _ _ _ _ _ _ _ _ _ _ _ _ _ _ _ _ _ _ _ _ _ _ _ _ _ _ _ _ _ _ _ _ _ _ _ _ _ _ _ _ _ _ _ _ B w3.heap.size gd w1.heap.size gi ci g35 c35 gst cst gh m T L p i j v6 v7 vt' vp' vl' _ old hs tka pta _ _ (n * (L : Int)) w0 w5 (Src.keep H6.out T15.out) (Src.keep H7.out T15.out) K5.out (Own.keep H35.out T15.out) (Own.keep HR.out T15.out) hT0 hT hL0 hL CI5.out.1 CI5.out.2 hij hjm hm (by omega) htT (fun h1 h2 => next_lt p n L (by omega) hL0 h1 h2) HO.out HH.out rfl (by omega) (by omega) (Tch.below0 HB.out T15.out) (Nat.le_trans hBw T15.out.size) _ ?_
  assumption
end Go.Proofs.Ybulkaxc.Seg
