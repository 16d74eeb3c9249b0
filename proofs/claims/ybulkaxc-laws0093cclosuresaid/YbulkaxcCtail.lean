/-
  components (17), the walk from its loop on.
-/
import Derived.Test.YbulkaxcCinner
import Derived.Test.YbulkaxcCut2
import Derived.Deep.RegionHeld3
import Derived.Deep.RegionLaw
import Derived.Deep.DeepCutAuto
import Derived.Deep.QuietTactic
import Derived.BigQuiet
import Derived.WalkSpells
namespace Go.Proofs.Ybulkaxc.Cm
open Go Go.RowKit Go.Proofs.Ybulkaxc.M2 Go.Proofs.Ybulkaxc.Tj Go.Proofs.Ybulkaxc.Pl2 Go.Proofs.Ybulkaxc.Cut2
set_option linter.unusedVariables false
theorem then_self {Q : Exit → Act → World → Prop} {e : Exit} {a : Act} {w : World} (h : Exit.then (fun a w => Q .normal a w) Q e a w) : Q e a w := by
  cases e <;> exact h

set_option maxRecDepth 100000 in
set_option maxHeartbeats 8000000 in
theorem comp_tail (d3 d4 d5 d17 d18 d19 d20 d21 d22 d23 d24 d25 d26 d27 d28 d29 d30 d31 d32 d33 d34 d35 d36 d37 d38 d39 d40 d41 d42 d43 d44 d45 d46 d47 d48 d49 d50 d51 d52 d53 d54 d55 d56 d57 d58 d59 d60 d61 d62 d63 d64 d65 d66 d67 d68 d69 d70 d71 d72 d73 d74 d75 d76 d77 d78 d79 d80 d81 d82 d83 d84 d85 d86 d87 d88 d89 d90 d91 d92 d93 d94 d95 d96 d97 d98 d99 d100 d101 d102 d103 d104 d105 d106 d107 d108 d109 d110 d111 d112 d113 d114 d115 d116 d117 d118 d119 d120 d121 d122 d123 d124 d125 d126 d127 d128 d129 d130 d131 d132 d133 d134 d135 d136 d137 d138 d139 d140 d141 d142 d143 d144 d145 d146 d147 d148 d149 d150 d151 d152 d153 d154 d155 d156 d157 d158 d159 d160 d161 d162 d163 d164 d165 d166 d167 d168 d169 d170 d171 d172 d173 d174 d175 d176 d177 d178 d179 d180 d181 d182 d183 d184 d185 d186 d187 d188 d189 d190 d191 d192 d193 d194 d195 d196 d197 d198 d199 d200 d201 d202 d203 d204 : Value) (w w5 : World) (n m gs gh b1 b2 b3 b4 b5 b6 b7 gi gl go gm gy : Nat) (A : List (Nat × Nat)) (st hd : List Int) (hn : n ≤ 1000) (hm : m ≤ 100000) (hAm : A.length = m) (hA : ∀ a b, (a, b) ∈ A → a < n ∧ b < n) (hcsr : CSR A n st hd) (hb7 : b7 = w.heap.size)
    (ho : Outr w ⟨b7, n, b1, b2, b3, b4, b5, b6, b7, gi, gl, go, gm, gy, .slice (some ⟨gs, 0, none⟩) (n + 1) (n + 1)⟩ A gs gh m st hd 0 (.int .i32 0) w5)
    (K1 K2 : Act → World → Prop) (hK1 : ∀ a w', Code.wp Yba.prog (snd ((Yba.f17.body.bind (tailAt 9)).getD .skip)) (bodyPost Yba.prog Yba.f17 (fun e w' => CRet w A n e w')) a w' → K1 a w')
    (hK2 : ∀ a w', Code.wp Yba.prog (snd (fst ((Yba.f17.body.bind (tailAt 9)).getD .skip))) (Exit.then K1 (bodyPost Yba.prog Yba.f17 (fun e w' => CRet w A n e w'))) a w' → K2 a w') :
    Code.wp Yba.prog (fst (fst ((Yba.f17.body.bind (tailAt 9)).getD .skip))) (Exit.then K2 (Exit.then K1 (bodyPost Yba.prog Yba.f17 (fun e w' => CRet w A n e w')))) ⟨#[.slice (some ⟨gs, 0, none⟩) (n + 1) (n + 1), .slice (some ⟨gh, 0, none⟩) m m, .pointer (some ⟨b7, 0, none⟩), d3, d4, d5, .int .i32 (n : Int), .pointer (some ⟨b2, 0, none⟩), .pointer (some ⟨b3, 0, none⟩), .slice (some ⟨gm, 0, none⟩) n n, .slice (some ⟨gy, 0, none⟩) n n, .pointer (some ⟨b5, 0, none⟩), .pointer (some ⟨b4, 0, none⟩), .pointer (some ⟨b6, 0, none⟩), .pointer (some ⟨b1, 0, none⟩), .int .i32 0, .func (.func 23) #[] #[.pointer (some ⟨b1, 0, none⟩), .pointer (some ⟨b2, 0, none⟩), .pointer (some ⟨b3, 0, none⟩), .pointer (some ⟨b4, 0, none⟩), .pointer (some ⟨b5, 0, none⟩), .pointer (some ⟨b6, 0, none⟩), .pointer (some ⟨b7, 0, none⟩)], d17, d18, d19, d20, d21, d22, d23, d24, d25, d26, d27, d28, d29, d30, d31, d32, d33, d34, d35, d36, d37, d38, d39, d40, d41, d42, d43, d44, d45, d46, d47, d48, d49, d50, d51, d52, d53, d54, d55, d56, d57, d58, d59, d60, d61, d62, d63, d64, d65, d66, d67, d68, d69, d70, d71, d72, d73, d74, d75, d76, d77, d78, d79, d80, d81, d82, d83, d84, d85, d86, d87, d88, d89, d90, d91, d92, d93, d94, d95, d96, d97, d98, d99, d100, d101, d102, d103, d104, d105, d106, d107, d108, d109, d110, d111, d112, d113, d114, d115, d116, d117, d118, d119, d120, d121, d122, d123, d124, d125, d126, d127, d128, d129, d130, d131, d132, d133, d134, d135, d136, d137, d138, d139, d140, d141, d142, d143, d144, d145, d146, d147, d148, d149, d150, d151, d152, d153, d154, d155, d156, d157, d158, d159, d160, d161, d162, d163, d164, d165, d166, d167, d168, d169, d170, d171, d172, d173, d174, d175, d176, d177, d178, d179, d180, d181, d182, d183, d184, d185, d186, d187, d188, d189, d190, d191, d192, d193, d194, d195, d196, d197, d198, d199, d200, d201, d202, d203, d204], []⟩ w5 := by
  conv => arg 2; whnf
  conv at hK1 => enter [a, w', 1, 2]; whnf
  conv at hK2 => enter [a, w', 1, 2]; whnf
  have HA := hide hA
  have HC := hide hcsr
  have HO := hide ho
  clear hA hcsr ho
  have HB7 := hide (show b7 ≤ w.heap.size by omega)
  have HB7' := hide hb7
  clear hb7
  go_wp2_with fail
  go_loopw [41, 15] (fun t v wq => ∃ k : Nat, k ≤ n ∧ t = .int .i32 k ∧ Outr w ⟨b7, n, b1, b2, b3, b4, b5, b6, b7, gi, gl, go, gm, gy, .slice (some ⟨gs, 0, none⟩) (n + 1) (n + 1)⟩ A gs gh m st hd k v wq) (fun t v _ => n - (intOf t).toNat)
  case atStart => exact ⟨0, Nat.zero_le _, rfl, HO.out⟩
  case round =>
    clear HO
    obtain ⟨r, hr, rfl, t, rfl, hst, hx⟩ := hrel
    have HSt := hide hst
    have HX := hide hx
    clear hst hx
    by_cases hlt : r < n
    · have e1 : (r : Int) < (n : Int) := by omega
      obtain ⟨tag, s, h1, h2, h3, h4, h5⟩ := HSt.out
      have c2 : wr.cell? ⟨b2, 0, none⟩ = some (.slice (some ⟨gi, 0, none⟩) n n) := Blk.cell (h1.say 2) 0
      have c8 : wr.cell? ⟨gi, r, none⟩ = some (.int .i32 ((t.idx r : Nat) : Int)) := Own.at (h1.say 8) (h3.idx r hlt)
      have hil : t.idx r ≤ 1000 := by have := h3.inv.le r; have := h3.small.1; dsimp only at this; omega
      clear h1 h2 h3 h4 h5
      by_cases hq : t.idx r = 0
      · have e2 : (((t.idx r : Nat) : Int) != 0) = false := by rw [hq]; rfl
        have HV := hide (visit_root w ⟨b7, n, b1, b2, b3, b4, b5, b6, b7, gi, gl, go, gm, gy, .slice (some ⟨gs, 0, none⟩) (n + 1) (n + 1)⟩ A gs gh m st hd wr t r HSt.out rfl HC.out (by omega) HB7.out hn hlt hq)
        have HI0 := hide (fun w6 (h : St9 w ⟨b7, n, b1, b2, b3, b4, b5, b6, b7, gi, gl, go, gm, gy, .slice (some ⟨gs, 0, none⟩) (n + 1) (n + 1)⟩ A gs gh m st hd w6 (Tj.visit t r) [(r, below (fsOf A) r)]) => (show ∃ mm, Inn w ⟨b7, n, b1, b2, b3, b4, b5, b6, b7, gi, gl, go, gm, gy, .slice (some ⟨gs, 0, none⟩) (n + 1) (n + 1)⟩ A gs gh m st hd (r + 1) (.int .i32 ((t.comps : Nat) : Int), w6) mm from
          ⟨_, Tj.visit t r, _, rfl, h, fun x hx => by
            show 0 < upd _ _ _ x
            by_cases e : x = r
            · rw [e, upd_same]; omega
            · rw [upd_ne _ _ e]; exact HX.out x (by omega), rfl⟩))
        dsimp only at HV
        generalize t.idx r = ik at *
        generalize t.comps = cm at *
        go_upto_region 13 with fail
        go_cut [15] (fun v wx => v = .int .i32 (cm : Int) ∧ ∃ mm, Inn w ⟨b7, n, b1, b2, b3, b4, b5, b6, b7, gi, gl, go, gm, gy, .slice (some ⟨gs, 0, none⟩) (n + 1) (n + 1)⟩ A gs gh m st hd (r + 1) (.int .i32 (cm : Int), wx) mm)
        case first =>
          go_wp2_with (first | (go_at_call 23; refine HV.out.mono ?_; rintro e w6 ⟨v6, rfl, hst6⟩; have HI := hide (HI0.out w6 hst6); clear hst6) | fail)
          go_meet
          case rel => exact ⟨rfl, HI.out⟩
        case rest =>
          obtain ⟨rfl, hi⟩ := hcut
          clear HV HI0
          rename_i Qx K1x h1 K2x h2
          refine h2 _ _ ?_
          clear h2 K2x
          refine wp_mono (Q := Exit.then (fun a w => Exit.inBlock 1 (Exit.then K1x Qx) .normal a w) (Exit.inBlock 1 (Exit.then K1x Qx))) ?_ (fun e a w h => then_self h)
          refine comp_inner _ _ _ _ _ _ _ _ _ _ _ _ _ _ _ _ _ _ _ _ _ _ _ _ _ _ _ _ _ _ _ _ _ _ _ _ _ _ _ _ _ _ _ _ _ _ _ _ _ _ _ _ _ _ _ _ _ _ _ _ _ _ _ _ _ _ _ _ _ _ _ _ _ _ _ _ _ _ _ _ _ _ _ _ _ _ _ _ _ _ _ _ _ _ _ _ _ _ _ _ _ _ _ _ _ _ _ _ _ _ _ _ _ _ _ _ _ _ _ _ _ _ _ _ _ _ _ _ _ _ _ _ _ _ _ _ _ _ _ _ _ _ _ _ _ _ _ _ _ _ _ _ _ _ _ _ _ _ _ _ _ _ _ _ _ _ _ _ _ _ _ _ _ _ _ _ _ _ _ _ _ _ _ _ _ _ _ _ _ _ _ (.int .i32 (cm : Int)) w wc n m gs gh b1 b2 b3 b4 b5 b6 b7 gi gl go gm gy r A st hd hn hm hAm HA.out HC.out HB7.out hi _ _ (fun _ _ _ _ _ h => h) ?_
          intro x18 x19 x20 x21 x22 x24 x52 x53 x54 x55 x56 x57 x58 x59 x60 x61 x62 x63 x64 x65 x66 x67 x68 x69 x70 x71 x72 x73 x74 x75 x76 x77 x78 x79 x80 x81 x82 x83 x84 x85 x86 x87 x88 x89 x90 x91 x92 x93 x94 x95 x96 x97 x98 x99 x100 x101 x102 x103 x104 x105 x106 x107 x108 x109 x110 x111 x112 x113 x114 x115 x116 x117 x118 x119 x120 x121 x122 x123 x124 x125 x126 x127 x128 x129 x130 x131 x132 x133 x134 x135 x136 x137 x138 x139 x140 x141 x142 x143 x144 x145 x146 x147 x148 x149 x150 x151 x152 x153 x154 x155 x156 x157 x158 x159 x160 x161 x162 x163 x164 x165 x166 x167 x168 x169 x170 x171 x172 x173 x174 x175 x176 x177 x178 x179 x180 x181 x182 x183 x184 x185 x186 x187 x188 x189 x190 x191 x192 x193 x194 x195 x196 x197 x198 x199 x200 x201 wz tz hst hx
          have HSz := hide hst
          have HXz := hide hx
          clear hst hx hi
          show K1x _ _
          refine h1 _ _ ?_
          clear h1
          generalize hcz : tz.comps = cz at *
          go_wp2_with fail
          go_roundw
          case rel => exact ⟨r + 1, by omega, by go_num, tz, by rw [hcz], HSz.out, HXz.out⟩
          case measure => simp [intOf]; omega
      · have e2 : (((t.idx r : Nat) : Int) != 0) = true := by
          rw [bne_iff_ne]; omega
        generalize hik : t.idx r = ik at *
        generalize hcm : t.comps = cm at *
        go_wp2_with fail
        go_roundw
        case rel => exact ⟨r + 1, by omega, by go_num, t, by rw [hcm], HSt.out, fun x hx => by
            by_cases e : x = r
            · rw [e, hik]; omega
            · exact HX.out x (by omega)⟩
        case measure => simp [intOf]; omega
    · obtain rfl : r = n := by omega
      generalize hcm : t.comps = cm at *
      go_wp2_with fail
      go_ret2
      obtain ⟨tag, s, h1, h2, h3, h4, h5⟩ := HSt.out
      exact ⟨gm, gy, s.lm, s.ly, t, rfl, (HB7'.out ▸ h1.say 13 : Own .i32 21 wr w.heap.size (.slice (some ⟨gm, 0, none⟩) r r) s.lm), (HB7'.out ▸ h1.say 14 : OwnB wr w.heap.size (.slice (some ⟨gy, 0, none⟩) r r) s.ly), Cm.TB.toNon h2, h3.inv, h3.path, HX.out, h3.com, h3.cyc, fun x hx => by
        have h6 := h3.inv.c2 x (HX.out x hx) (by rw [h3.inv.fin h3.path]; simp)
        have h7 := h3.small.2.2.2
        dsimp only at h7
        omega⟩
end Go.Proofs.Ybulkaxc.Cm
