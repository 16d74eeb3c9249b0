/-
  LawS0093AStep, the walk's segment: the law's own reckoning over the targets.
-/
import Derived.Test.YbulkaxcSegH
import Derived.Test.YbulkaxcPlain
namespace Go.Proofs.Ybulkaxc.Seg
open Go Go.RowKit Go.Proofs.Ybulkaxc.Mem Go.Proofs.Ybulkaxc.Step Go.Proofs.Ybulkaxc.Clone
set_option linter.unusedVariables false

/-- The relation of the loop over the targets. -/
def RelG (W T : Nat) (txn : Int) (old pta tg : List Int) (w : World) (k : Nat) (u v : Value) (wr : World) : Prop :=
  Own wr W (.slice (some ⟨W, 0, none⟩) T T) ((tg.take k).foldl (see txn old) (List.replicate old.length 0, pta, [])).1 ∧
  Own wr W u ((tg.take k).foldl (see txn old) (List.replicate old.length 0, pta, [])).2.2 ∧
  Own wr W v ((tg.take k).foldl (see txn old) (List.replicate old.length 0, pta, [])).2.1 ∧
  Off u W ∧ Off v W ∧ Sep u v ∧ Tch [] w wr

set_option maxRecDepth 100000 in
set_option maxHeartbeats 1000000 in
theorem segG (d0 d1 d2 d3 d4 d5 d8 d9 d10 d11 d12 d13 d14 d15 d16 d17 d18 d19 d22 d23 d24 d25 d26 d27 d28 d29 d30 d31 d32 d33 d34 d36 d42 d43 d44 d45 d46 d47 d48 d49 d50 d51 d52 d53 d54 d55 d56 d57 d58 d59 d60 d61 d62 d63 d64 d65 d66 d67 d68 d69 d70 d71 d72 d73 d74 d75 d76 d77 d78 d79 d80 d81 d82 d83 d84 d85 d86 d87 d88 d89 d90 d91 d92 d93 d94 d95 d96 d97 d98 d99 d100 d101 d102 d103 d104 d105 d106 d107 d108 d109 d110 d111 d112 d113 d114 d115 d116 d117 d118 d119 d120 d121 d122 d123 d124 d125 d126 d127 d128 d129 d130 d131 d132 d133 d134 d135 d136 d137 d138 d139 d140 d141 d142 d143 d144 d145 d146 d147 d148 d149 d150 d151 d152 d153 d154 d155 d156 d157 d158 d159 d160 d161 d162 d163 d164 d165 d166 d167 d168 d169 d170 d171 d172 d173 d174 d175 d176 d177 d178 d179 d180 d181 d182 d183 d184 d185 d186 d187 d188 d189 d190 d191 d192 d193 d194 d195 d196 d197 d198 d199 d200 d201 d202 d203 d204 d205 d206 d207 d208 d209 d210 d211 d212 d213 d214 d215 d216 d217 d218 d219 d220 d221 d222 d223 d224 d225 d226 d227 d228 d229 d230 d231 d232 d233 d234 d235 d236 d237 d238 d239 d240 d241 d242 d243 d244 d245 d246 d247 d248 d249 d250 d251 d252 d253 d254 d255 d256 d257 d258 d259 d260 d261 d262 d263 d264 d265 d266 d267 d268 d269 d270 d271 d272 d273 d274 d275 d276 d277 d278 d279 d280 d281 d282 d283 d284 d285 d286 d287 d288 d289 d290 d291 d292 d293 d294 d295 d296 d297 d298 d299 d300 d301 d302 d303 d304 d305 d306 d307 d308 d309 d310 d311 d312 d313 d314 d315 d316 d317 d318 d319 d320 d321 d322 d323 d324 d325 d326 d327 d328 d329 d330 d331 d332 d333 d334 d335 d336 d337 d338 d339 d340 d341 d342 d343 d344 d345 d346 d347 d348 d349 d350 : Value) (B gs gd gl gi ci g35 c35 T N c41 : Nat) (a41 : Option Addr) (v6 v7 vt vp vl : Value) (ind old tg tka pta pts lg : List Int) (p txn : Int) (w0 w : World)
    (h6 : Src w v6 tka) (h7 : Src w v7 pta) (h : SW w B gs gd gl (.slice (some ⟨gi, 0, none⟩) T ci) vt vp vl ind (tka ++ [p]) pts lg)
    (h35 : Own w B (.slice (some ⟨g35, 0, none⟩) T c35) old) (h41 : Own w B (.slice a41 N c41) tg) (hT0 : 1 ≤ T) (hT : T ≤ 1000)
    (hold : ∀ y ∈ old, -2147483648 ≤ y ∧ y ≤ 2147483647) (htg : ∀ x ∈ tg, 0 ≤ x ∧ x < T) (hN : N ≤ 10000)
    (hfold : tg.foldl (hit txn) (old, pta, []) = (ind, pts, lg))
    (l1 : tka.length ≤ 10000) (l2 : pta.length ≤ 10000) (hb : Below w0.heap.size w0 w) (hBw : B ≤ w.heap.size)
    (K : Act → World → Prop) (hK : ∀ a w, Code.wp Yba.prog (snd ((Yba.f3.body.bind (tailAt 52)).getD .skip)) (Post w0) a w → K a w) :
    Code.wp Yba.prog (fst ((Yba.f3.body.bind (tailAt 52)).getD .skip)) (Exit.then K (Post w0)) ⟨#[d0, d1, d2, d3, d4, d5, v6, v7, d8, d9, d10, d11, d12, d13, d14, d15, d16, d17, d18, d19, .int .i32 txn, .int .i32 (T : Int), d22, d23, d24, d25, d26, d27, d28, d29, d30, d31, d32, d33, d34, .slice (some ⟨g35, 0, none⟩) T c35, d36, .slice (some ⟨gi, 0, none⟩) T ci, .pointer (some ⟨gl, 0, none⟩), .pointer (some ⟨gs, 0, none⟩), .int .i32 p, .slice a41 N c41, d42, d43, d44, d45, d46, d47, d48, d49, d50, d51, d52, d53, d54, d55, d56, d57, d58, d59, d60, d61, d62, d63, d64, d65, d66, d67, d68, d69, d70, d71, d72, d73, d74, d75, d76, d77, d78, d79, d80, d81, d82, d83, d84, d85, d86, d87, d88, d89, d90, d91, d92, d93, d94, d95, d96, d97, d98, d99, d100, d101, d102, d103, d104, d105, d106, d107, d108, d109, d110, d111, d112, d113, d114, d115, d116, d117, d118, d119, d120, d121, d122, d123, d124, d125, d126, d127, d128, d129, d130, d131, d132, d133, d134, d135, d136, d137, d138, d139, d140, d141, d142, d143, d144, d145, d146, d147, d148, d149, d150, d151, d152, d153, d154, d155, d156, d157, d158, d159, d160, d161, d162, d163, d164, d165, d166, d167, d168, d169, d170, d171, d172, d173, d174, d175, d176, d177, d178, d179, d180, d181, d182, d183, d184, d185, d186, d187, d188, d189, d190, d191, d192, d193, d194, d195, d196, d197, d198, d199, d200, d201, d202, d203, d204, d205, d206, d207, d208, d209, d210, d211, d212, d213, d214, d215, d216, d217, d218, d219, d220, d221, d222, d223, d224, d225, d226, d227, d228, d229, d230, d231, d232, d233, d234, d235, d236, d237, d238, d239, d240, d241, d242, d243, d244, d245, d246, d247, d248, d249, d250, d251, d252, d253, d254, d255, d256, d257, d258, d259, d260, d261, d262, d263, d264, d265, d266, d267, d268, d269, d270, d271, d272, d273, d274, d275, d276, d277, d278, d279, d280, d281, d282, d283, d284, d285, d286, d287, d288, d289, d290, d291, d292, d293, d294, d295, d296, d297, d298, d299, d300, d301, d302, d303, d304, d305, d306, d307, d308, d309, d310, d311, d312, d313, d314, d315, d316, d317, d318, d319, d320, d321, d322, d323, d324, d325, d326, d327, d328, d329, d330, d331, d332, d333, d334, d335, d336, d337, d338, d339, d340, d341, d342, d343, d344, d345, d346, d347, d348, d349, d350], []⟩ w := by
  conv => arg 2; whnf
  conv at hK => enter [a, w, 1, 2]; whnf
  obtain ⟨i0, hi, hz0, hz1, hz2⟩ := info_parts info21
  have H6 := hide h6
  have H7 := hide h7
  have H := hide h
  have H35 := hide h35
  have H41 := hide h41
  have HB := hide hb
  have HO := hide hold
  have HTG := hide htg
  have HFD := hide hfold
  have e35 := h35.len
  have e41 := h41.len
  have E35 := hide e35
  have E41 := hide e41
  clear h6 h7 h h35 h41 hb hold htg hfold e35 e41
  go_wp2_with (first | (refine wpList_make_full _ rfl (.tmp 272) (.tmp 272) 23 rfl w.heap.size 21 i0 (.int .i32 0) 1 Yba.underlying23 hi hz0 hz1 .i32 .i32 _ _ T rfl rfl rfl rfl (by rw [hz2]; omega) (by unfold maxLen; omega) (Nat.le_refl _) ?_; intro w1 hown1 hgr1) | fail)
  have o1 := Own.made hown1
  have t1 : Tch [] w w1 := (Tch.refl _ _).of_grownBy hgr1 (by simp)
  clear hown1 hgr1
  refine (clone_any _ v7 pta (by omega) (Src.keep H7.out t1)).mono ?_
  rintro e w2 ⟨v', rfl, k1, k2⟩
  have R0 : RelG w.heap.size T txn old pta tg w 0 (.slice none 0 0) v' w2 := by
    refine ⟨?_, ?_, ?_, ?_, ?_, ?_, t1.trans k2 (by simp)⟩
    · have := Own.keep o1 k2
      simpa [E35.out] using this
    · exact Own.nil _ _
    · exact k1.mono t1.size
    · exact fun e => by cases e
    · exact fun e => by have := (k1.lt e).1; have := o1.lt (g := w.heap.size) rfl; omega
    · exact fun k hk => by cases hk
  have HR0 := hide R0
  clear R0 k1 k2 o1 t1
  go_wp2_with fail
  go_loopw [43, 44, 278] (fun u v t wr => ∃ k : Nat, k ≤ N ∧ t = .int .i64 k ∧ RelG w.heap.size T txn old pta tg w k u v wr) (fun _ _ t _ => N - (intOf t).toNat)
  case atStart => exact ⟨0, Nat.zero_le _, rfl, HR0.out⟩
  case round =>
    clear HR0
    obtain ⟨k, hk, rfl, o1, o2, o3, f1, f2, f3, t0⟩ := hrel
    by_cases hlt : k < N
    · obtain ⟨g41, rfl⟩ : ∃ g, a41 = some ⟨g, 0, none⟩ := by
        rcases H41.out.form with ⟨e, _⟩ | ⟨g, cap, e, _⟩
        · cases e; omega
        · cases e; exact ⟨g, rfl⟩
      have hJ := joint old HO.out pta txn tg (by rw [E35.out]; exact HTG.out) (by rw [E41.out]; omega) k (by rw [E41.out]; exact hk)
      obtain ⟨x, hx, cx⟩ := (Own.keep H41.out t0).cell (i := k) (by rw [E41.out]; exact hlt)
      have hsn := see_snoc txn old tg (List.replicate old.length 0, pta, []) hx
      have hxr := HTG.out x (List.mem_of_getElem? hx)
      obtain ⟨x, rfl⟩ := Int.eq_ofNat_of_zero_le hxr.1
      obtain ⟨s, hs, cs⟩ := o1.cell (i := x) (by rw [hJ.lb, E35.out]; omega)
      obtain ⟨y, hy, cy⟩ := (Own.keep H35.out t0).cell (i := x) (by rw [E35.out]; omega)
      have hsb := hJ.bd x s hs
      have hfz := o1.frozen x
      have hg35 : g35 ≠ w.heap.size := by have := H35.out.lt (g := g35) rfl; omega
      have p1 := o1.set x (s + 1)
      have p2 := o2.setOff (p := ⟨w.heap.size, x, none⟩) (.int .i32 (s + 1)) f1
      have p3 := o3.setOff (p := ⟨w.heap.size, x, none⟩) (.int .i32 (s + 1)) f2
      have p4 := t0.setCell (p := ⟨w.heap.size, x, none⟩) (.inr (Nat.le_refl _)) (.int .i32 (s + 1))
      have l3 : ((tg.take k).foldl (see txn old) (List.replicate old.length 0, pta, [])).2.2.length ≤ 100000 := by
        rw [← hJ.lg]
        have := (hits_len txn (tg.take k) (old, pta, [])).2.2
        have := List.length_take_le k tg
        simp at *; omega
      have l4 : ((tg.take k).foldl (see txn old) (List.replicate old.length 0, pta, [])).2.1.length ≤ 100000 := by
        rw [← hJ.pts]
        have h1 : _ ≤ pta.length + (tg.take k).length := (hits_len txn (tg.take k) (old, pta, [])).2.1
        have := List.length_take_le k tg
        omega
      have hW : w.heap.size ≤ wr.heap.size := t0.size
      have HSN := hide hsn
      have P1 := hide p1
      have P2 := hide p2
      have P3 := hide p3
      have P4 := hide p4
      have F1 := hide f1
      have F2 := hide f2
      have F3 := hide f3
      have HS := hide hs
      have HY := hide hy
      clear hJ hx hsn hs hy o1 o2 o3 f1 f2 f3 t0 p1 p2 p3 p4
      by_cases he : s + 1 = y
      · have heb : (s + 1 == y) = true := by simp [he]
        have HE := hide he
        clear he
        by_cases hp : txn ≤ (x : Int)
        · go_wp2_with fail
          go_quiet (fail)
          generalize hG : World.drewN _ _ = W1
          have q1 := P1.out.drewN nq
          have q2 := P2.out.drewN nq
          have q3 := P3.out.drewN nq
          have q4 := P4.out.drewN nq
          rw [hG] at q1 q2 q3 q4
          have hW1 := q4.size
          have Q1 := hide q1
          have Q2 := hide q2
          have Q3 := hide q3
          have Q4 := hide q4
          clear hG q1 q2 q3 q4
          go_wp2_with (at_builtin; go_must (refine wpList_app32 (v := u44) _ rfl (.tmp 300) (.tmp 302) 23 rfl i0 Yba.underlying23 hi hz0 hz1 hz2 rfl (by exact Q3.out.alloc _) rfl (by exact Src.one W1 x 1) (by simp only [List.length_cons, List.length_nil]; omega) (by simp only [World.size_alloc]; omega) ?_; intro v2 w2 hown2 hgrow hfr))
          go_roundw
          case rel =>
            refine ⟨k + 1, by omega, by go_num, ?_⟩
            unfold RelG
            rw [HSN.out, see_hitY txn old _ x HS.out HY.out HE.out]
            simp only [if_pos hp]
            have hlt0 : w.heap.size < W1.heap.size := (Q1.out.lt (g := w.heap.size) rfl).2
            have hfr' := hfr.of_alloc
            exact ⟨(Q1.out.alloc _).touch hgrow (fun g hg hm => F2.out (by cases hg; simpa using hm)), (Q2.out.alloc _).apart hgrow F3.out, hown2, F1.out, F2.out.fr hlt0 hfr', (F3.out.symm.fr Q2.out hfr').symm, (Q4.out.alloc _).trans hgrow (fun g hg => .inr (Q3.out.lt (by simpa using hg)).1)⟩
          case measure => simp [intOf]; omega
        · go_wp2_with fail
          go_quiet (fail)
          generalize hG : World.drewN _ _ = W1
          have q1 := P1.out.drewN nq
          have q2 := P2.out.drewN nq
          have q3 := P3.out.drewN nq
          have q4 := P4.out.drewN nq
          rw [hG] at q1 q2 q3 q4
          have hW1 := q4.size
          have Q1 := hide q1
          have Q2 := hide q2
          have Q3 := hide q3
          have Q4 := hide q4
          clear hG q1 q2 q3 q4
          go_wp2_with (at_builtin; go_must (refine wpList_app32 (v := u43) _ rfl (.tmp 304) (.tmp 306) 23 rfl i0 Yba.underlying23 hi hz0 hz1 hz2 rfl (by exact Q2.out.alloc _) rfl (by exact Src.one W1 x 1) (by simp only [List.length_cons, List.length_nil]; omega) (by simp only [World.size_alloc]; omega) ?_; intro v2 w2 hown2 hgrow hfr))
          go_roundw
          case rel =>
            refine ⟨k + 1, by omega, by go_num, ?_⟩
            unfold RelG
            rw [HSN.out, see_hitY txn old _ x HS.out HY.out HE.out]
            simp only [if_neg (show ¬ txn ≤ (x : Int) by omega)]
            have hlt0 : w.heap.size < W1.heap.size := (Q1.out.lt (g := w.heap.size) rfl).2
            have hfr' := hfr.of_alloc
            exact ⟨(Q1.out.alloc _).touch hgrow (fun g hg hm => F1.out (by cases hg; simpa using hm)), hown2, (Q3.out.alloc _).apart hgrow F3.out.symm, F1.out.fr hlt0 hfr', F2.out, F3.out.fr Q3.out hfr', (Q4.out.alloc _).trans hgrow (fun g hg => .inr (Q2.out.lt (by simpa using hg)).1)⟩
          case measure => simp [intOf]; omega
      · have heb : (s + 1 == y) = false := by simp [he]
        have HE := hide he
        clear he
        go_wp2_with fail
        go_quiet (fail)
        generalize hG : World.drewN _ _ = W1
        have q1 := P1.out.drewN nq
        have q2 := P2.out.drewN nq
        have q3 := P3.out.drewN nq
        have q4 := P4.out.drewN nq
        rw [hG] at q1 q2 q3 q4
        have hW1 := q4.size
        have Q1 := hide q1
        have Q2 := hide q2
        have Q3 := hide q3
        have Q4 := hide q4
        clear hG q1 q2 q3 q4
        go_wp2_with fail
        go_roundw
        case rel =>
          refine ⟨k + 1, by omega, by go_num, ?_⟩
          unfold RelG
          rw [HSN.out, see_hitN txn old _ x HS.out HY.out HE.out]
          exact ⟨Q1.out, Q2.out, Q3.out, F1.out, F2.out, F3.out, Q4.out⟩
        case measure => simp [intOf]; omega
    · have hJ := joint old HO.out pta txn tg (by rw [E35.out]; exact HTG.out) (by rw [E41.out]; omega) tg.length (Nat.le_refl _)
      rw [List.take_length, HFD.out] at hJ
      have hkN : tg.take k = tg := List.take_of_length_le (by rw [E41.out]; omega)
      rw [hkN] at o1 o2 o3
      rw [← hJ.lg] at o2
      rw [← hJ.pts] at o3
      have l3 := hits_len txn tg (old, pta, [])
      rw [HFD.out] at l3
      have l4 : pts.length ≤ 20000 := by have : pts.length ≤ pta.length + tg.length := l3.2.1; have := E41.out; omega
      have l5 : lg.length ≤ 20000 := by have : lg.length ≤ 0 + tg.length := l3.2.2; have := E41.out; omega
      have R := hide (And.intro o1 (And.intro o2 (And.intro o3 t0)))
      have HI := hide hJ.ind
      clear hJ hkN o1 o2 o3 t0 l3 f1 f2 f3
      go_upto_region 64 with fail
      have hBW := hBw
      refine segH _ _ _ _ _ _ _ _ _ _ _ _ _ _ _ _ _ _ _ _ _ _ _ _ _ _ _ _ _ _ _ _ _ _ _ _ _ _ _ _ _ _ _ _ _ _ _ _ _ _ _ _ _ _ _ _ _ _ _ _ _ _ _ _ _ _ _ _ _ _ _ _ _ _ _ _ _ _ _ _ _ _ _ _ _ _ _ _ _ _ _ _ _ _ _ _ _ _ _ _ _ _ _ _ _ _ _ _ _ _ _ _ _ _ _ _ _ _ _ _ _ _ _ _ _ _ _ _ _ _ _ _ _ _ _ _ _ _ _ _ _ _ _ _ _ _ _ _ _ _ _ _ _ _ _ _ _ _ _ _ _ _ _ _ _ _ _ _ _ _ _ _ _ _ _ _ _ _ _ _ _ _ _ _ _ _ _ _ _ _ _ _ _ _ _ _ _ _ _ _ _ _ _ _ _ _ _ _ _ _ _ _ _ _ _ _ _ _ _ _ _ _ _ _ _ _ _ _ _ _ _ _ _ _ _ _ _ _ _ _ _ _ _ _ _ _ _ _ _ _ _ _ _ _ _ _ _ _ _ _ _ _ _ _ _ _ _ _ _ _ _ _ _ _ _ _ _ _ _ _ _ _ _ _ _ _ _ _ _ _ _ _ _ _ _ _ _ _ _ _ _ _ _ _ _ _ _ _ _ _ _ _ _ _ _ _ _ _ _ _ _ _ _ _ _ _ _ _ _ _ _ _ _ _ _ _ _ _ _ _ _ _ B gs gd gl gi ci g35 c35 w.heap.size T T v6 _ _ vt vp vl ind old _ tka pts lg p w0 wr (Src.keep H6.out R.out.2.2.2) (SW.keep H.out R.out.2.2.2) (R.out.2.2.1.mono hBW) (R.out.2.1.mono hBW) (Own.keep H35.out R.out.2.2.2) (R.out.1.mono hBW) (by omega) HI.out l1 l4 l5 (Tch.below0 HB.out R.out.2.2.2) _ _ ?_ ?_
      · assumption
      · assumption
end Go.Proofs.Ybulkaxc.Seg
