/-
  roundSearch.back, by contract.
-/
import Derived.Test.YbulkaxcDoorBi
namespace Go.Proofs.YbulkaxcDoor.Back
open Go Go.RowKit Go.Proofs.YbulkaxcDoor.Mem Go.Proofs.YbulkaxcDoor.Pl Go.Proofs.YbulkaxcDoor.RS Go.Proofs.YbulkaxcDoor.Dg Go.Proofs.YbulkaxcDoor.Sr
open Go.Proofs.YbulkaxcDoor.Fwd (info21 un_le seen_succ seen_zero)
open Go.Proofs.YbulkaxcDoor.Bi (Done backIndex_any)
set_option linter.unusedVariables false

theorem equalIn_nilf (w : World) (d : Nat) : (Op.equalIn (d + 1) 80 .nilFunc .nilFunc).run Ybad.prog w = .ok true w := by
  simp [Op.equalIn, run_underlying Ybad.underlying80]
theorem neq_nilf (w : World) : (binOp .neq 80 .nilFunc .nilFunc).run Ybad.prog w = .ok (.bool false) w := by
  simp only [binOp]
  simp [Op.equal, Op.maxDepth, equalIn_nilf w 9999]

def Out (w : World) (tag : Nat → Nat) (B grs gd n : Nat) (s : Rs) (y : Nat) (A : List (Nat × Nat)) (wr : World) : Prop :=
  ∃ tag' beh stk vs mk, RS wr B grs gd (2 * n) tag' { s with srch := s.srch + 1, beh := beh, stk := stk, vs := vs, marked := mk } ∧ TT tag w tag' wr ∧ So (bwd A) y (2 * n) (s.srch + 1) beh stk ∧ stk.length + un (s.srch + 1) beh ≤ 2 * n
theorem Out.keep {w : World} {tag : Nat → Nat} {B grs gd n : Nat} {s : Rs} {y : Nat} {A : List (Nat × Nat)} {wr wr' : World} (h : Out w tag B grs gd n s y A wr) (t : Tch Non wr wr') : Out w tag B grs gd n s y A wr' := by
  obtain ⟨tag', beh, stk, vs, mk, h1, h2, h3⟩ := h
  exact ⟨tag', beh, stk, vs, mk, h1.keep t, h2.trans (TT.keep t), h3⟩
def Inn (w : World) (tag : Nat → Nat) (B grs gd n : Nat) (s : Rs) (y : Nat) (A : List (Nat × Nat)) (p : Nat) (done : Nat → Prop) (M : Nat) (wr : World) : Prop :=
  ∃ tag' beh stk vs mk, RS wr B grs gd (2 * n) tag' { s with srch := s.srch + 1, beh := beh, stk := stk, vs := vs, marked := mk } ∧ TT tag w tag' wr ∧ Si (bwd A) y (2 * n) (s.srch + 1) beh stk p done ∧ stk.length + un (s.srch + 1) beh = M
theorem Inn.keep {w : World} {tag : Nat → Nat} {B grs gd n : Nat} {s : Rs} {y : Nat} {A : List (Nat × Nat)} {p : Nat} {done : Nat → Prop} {M : Nat} {wr wr' : World} (h : Inn w tag B grs gd n s y A p done M wr) (t : Tch Non wr wr') : Inn w tag B grs gd n s y A p done M wr' := by
  obtain ⟨tag', beh, stk, vs, mk, h1, h2, h3⟩ := h
  exact ⟨tag', beh, stk, vs, mk, h1.keep t, h2.trans (TT.keep t), h3⟩

/-- What a search leaves alone. -/
structure Keep (s s' : Rs) : Prop where
  vr : s'.vr = s.vr
  vo : s'.vo = s.vo
  vb : s'.vb = s.vb
  vy : s'.vy = s.vy
  ys : s'.ys = s.ys
  va : s'.va = s.va
  nA : s'.nA = s.nA
  vn : s'.vn = s.vn
  near : s'.near = s.near
def BPost (w : World) (B grs gd n m : Nat) (tag : Nat → Nat) (s : Rs) (A : List (Nat × Nat)) (x : Nat) (w' : World) : Prop :=
  ∃ s' tag', RS w' B grs gd (2 * n) tag' s' ∧ TT tag w tag' w' ∧ Keep s s' ∧ s'.srch = s.srch + 1 ∧ s'.onw = s.onw ∧ Done A n m s' ∧ (∀ (i : Nat) (v : Int), s'.beh[i]? = some v → v ≤ s.srch + 1) ∧ ∀ q : Nat, s'.beh[q]? = some (s.srch + 1) ↔ Rn (bwd A) x q

set_option maxRecDepth 10000 in
set_option maxHeartbeats 2000000 in
theorem back_any (w0 : World) (B grs gd gg ga gh gs n m cl gr go cr co b1 b2 b3 y : Nat) (al : Option Addr) (tag0 : Nat → Nat) (s0 : Rs) (A : List (Nat × Nat)) (st hd : List Int) (h0 : RS w0 B grs gd (2 * n) tag0 s0) (d0 : DG w0 tag0 gd gg ga gh gs n m al cl A st hd)
    (er0 : s0.vr = .slice (some ⟨gr, 0, none⟩) (2 * n) cr) (eo0 : s0.vb = .slice (some ⟨go, 0, none⟩) (2 * n) co) (hix : s0.vi = .slice none 0 0 ∨ Done A n m s0)
    (f10 : Fix w0 tag0 ⟨b1, 0, none⟩ (.pointer (some ⟨grs, 0, none⟩))) (f20 : Fix w0 tag0 ⟨b2, 0, none⟩ (.int .i32 0)) (f30 : Fix w0 tag0 ⟨b3, 0, none⟩ (.pointer (some ⟨gd, 0, none⟩)))
    (hle0 : ∀ (i : Nat) (v : Int), s0.beh[i]? = some v → v ≤ s0.srch) (hs00 : 0 ≤ s0.srch) (hs10 : s0.srch ≤ 1000) (hy : y < 2 * n) :
    Calls Ybad.prog 23 #[.pointer (some ⟨grs, 0, none⟩), .int .i32 (y : Int), .func (.func 24) #[] #[.pointer (some ⟨b1, 0, none⟩), .pointer (some ⟨b2, 0, none⟩), .pointer (some ⟨b3, 0, none⟩)], .nilFunc] w0
      fun e w' => ∃ v, e = .returned v ∧ BPost w0 B grs gd n m tag0 s0 A y w' := by
  obtain ⟨i0, hi, hz0, hz1, hz2⟩ := info_parts info21
  have HBI := hide (backIndex_any w0 B grs gd gg ga gh gs n m cl al tag0 s0 A st hd h0 d0 hix)
  have hn := d0.hn
  have hm := d0.hm
  have qf := neq_nilf
  have HALL := hide (And.intro d0 (And.intro er0 (And.intro eo0 (And.intro f10 (And.intro f20 (And.intro f30 hle0))))))
  clear h0 d0 er0 eo0 hix f10 f20 f30 hle0
  go_enter Ybad.func23, Ybad.ntmps23
  go_upto_region 1 with (first | (go_at_call 26; refine HBI.out.mono ?_; rintro e w ⟨v, tag, into, vi, tls, vt, rfl, g1, g2, g3⟩; replace g1 := hide g1; replace g2 := hide g2; replace g3 := hide g3))
  generalize hs1 : ({ s0 with into := into, vi := vi, tls := tls, vt := vt } : Rs) = s at *
  have hkeep : Keep s0 s ∧ s.srch = s0.srch ∧ s.onw = s0.onw ∧ s.beh = s0.beh := by subst hs1; exact ⟨⟨rfl, rfl, rfl, rfl, rfl, rfl, rfl, rfl, rfl⟩, rfl, rfl, rfl⟩
  have HKP := hide hkeep
  have er : s.vr = .slice (some ⟨gr, 0, none⟩) (2 * n) cr := hkeep.1.vr.trans HALL.out.2.1
  have eo : s.vb = .slice (some ⟨go, 0, none⟩) (2 * n) co := hkeep.1.vb.trans HALL.out.2.2.1
  have d := HALL.out.1.tt g2.out
  have f1 := HALL.out.2.2.2.1.tt g2.out
  have f2 := HALL.out.2.2.2.2.1.tt g2.out
  have f3 := HALL.out.2.2.2.2.2.1.tt g2.out
  have hle : ∀ (i : Nat) (v : Int), s.beh[i]? = some v → v ≤ s.srch := by rw [hkeep.2.2.2, hkeep.2.1]; exact HALL.out.2.2.2.2.2.2
  have hs0 : 0 ≤ s.srch := by rw [hkeep.2.1]; exact hs00
  have hs1' : s.srch ≤ 1000 := by rw [hkeep.2.1]; exact hs10
  have h := g1.out
  have hlo : s.beh.length = 2 * n := by have := h.own 4; unfold Rs.own at this; rw [eo] at this; exact this.len
  have k4 : w.cell? ⟨grs, 4, none⟩ = some (.int .i32 s.srch) := h.blk.cell 4
  have z4 := h.blk.frozen 4
  obtain ⟨gi, gt, A', evi, evt, hmem, hlA, hcs⟩ := g3.out
  obtain ⟨h2, t2⟩ := putSrch h (s.srch + 1)
  have H2 := hide h2
  have T2 := hide t2
  have HD := hide d
  have HER := hide er
  have HEO := hide eo
  have HF := hide (And.intro f1 (And.intro f2 f3))
  have HL := hide hlo
  have HLE := hide hle
  have HVI := hide evi
  have HVT := hide evt
  have HMEM := hide hmem
  have HLA := hide hlA
  have HCS := hide hcs
  have HDN := hide g3.out
  have G2 := hide g2.out
  clear h2 t2 d f1 f2 f3 hlo hle h er eo evi evt hmem hlA hcs hkeep HBI HALL hs1 g1 g2 g3 hs00 hs10
  go_upto_region 2 with fail
  generalize w.setCell ⟨grs, 4, none⟩ (.int .i32 (s.srch + 1)) = wA at *
  clear k4 z4
  go_cut [1] (fun v wc => v = .int .i32 (y : Int) ∧ ∃ tag' vs, RS wc B grs gd (2 * n) tag' { s with srch := s.srch + 1, stk := [(y : Int)], vs := vs } ∧ TT tag w tag' wc)
  case first =>
    have o5 : Own .i32 21 wA B s.vs s.stk := H2.out.own 5
    have k5 : wA.cell? ⟨grs, 5, none⟩ = some s.vs := H2.out.blk.cell 5
    have hB := H2.out.hB
    rcases o5.form with ⟨ev, el⟩ | ⟨gv, cv, ev, hb, hlt, hlc, hcm⟩
    · rw [ev] at k5
      have EV := hide ev
      have EL := hide el
      clear o5 ev el
      go_wp2_with (at_builtin; go_must (refine wpList_app (v := .slice none 0 0) _ rfl (.tmp 25) (.tmp 27) .i32 21 24 rfl i0 4 (by omega) Ybad.underlying24 hi hz0 hz1 hz2 rfl (Own.nil .i32 21 _ B) rfl (by exact Src.one .i32 21 wA (y : Int) 1) (by simp only [List.length_cons, List.length_nil]; omega) (by simp only [World.size_alloc]; omega) ?_; intro v' w1 hown' hgrow hfr; obtain ⟨al', nl', cl', hv'⟩ := hown'.slice; subst hv'; have hb1 : Blk w1 grs 57 _ := (H2.out.blk.alloc _).touch hgrow (by simp [Value.ownBlock]); have hx1 : w1.cell? ⟨grs, 5, none⟩ = some (.slice none 0 0) := (hb1.cell 5).trans (by rw [← EV.out]; rfl); have hf1 := hb1.frozen 5; clear hb1))
      go_meet
      case rel =>
        refine ⟨rfl, ?_⟩
        obtain ⟨tag', q1, q2⟩ := putStk (H2.out.keep ((Tch.refl Non wA).alloc (.cells #[.int .i32 (y : Int)] 21))) (.slice none 0 0) (.slice al' nl' cl') [(y : Int)] (by simp [Value.ownBlock]) hgrow hfr hown'
        exact ⟨tag', _, q1, (T2.out.trans (TT.keep ((Tch.refl Non wA).alloc _))).trans q2⟩
    · rw [ev] at k5
      rw [ev] at o5
      have o6 := o5.cut 0 (Nat.zero_le _)
      have O6 := hide o6
      have EV := hide ev
      have hob : s.vs.ownBlock = some gv := by rw [ev]; rfl
      have HOB := hide hob
      clear o5 o6 ev hob
      generalize s.stk.length = N5 at *
      go_wp2_with (at_builtin; go_must (refine wpList_app (v := .slice (some ⟨gv, 0, none⟩) 0 cv) _ rfl (.tmp 25) (.tmp 27) .i32 21 24 rfl i0 4 (by omega) Ybad.underlying24 hi hz0 hz1 hz2 rfl (by exact O6.out.alloc _) rfl (by exact Src.one .i32 21 wA (y : Int) 1) (by simp only [List.take_zero, List.length_cons, List.length_nil]; omega) (by simp only [World.size_alloc]; omega) ?_; intro v' w1 hown' hgrow hfr; obtain ⟨al', nl', cl', hv'⟩ := hown'.slice; subst hv'; have hb1 : Blk w1 grs 57 _ := (H2.out.blk.alloc _).touch hgrow (fun hm => own_not_grs H2.out 5 (by decide) (g := grs) ((show gv = grs by simpa [Value.ownBlock] using hm) ▸ HOB.out) rfl); have hx1 : w1.cell? ⟨grs, 5, none⟩ = some (.slice (some ⟨gv, 0, none⟩) N5 cv) := (hb1.cell 5).trans (by rw [← EV.out]; rfl); have hf1 := hb1.frozen 5; clear hb1))
      go_meet
      case rel =>
        refine ⟨rfl, ?_⟩
        obtain ⟨tag', q1, q2⟩ := putStk (H2.out.keep ((Tch.refl Non wA).alloc (.cells #[.int .i32 (y : Int)] 21))) (.slice (some ⟨gv, 0, none⟩) 0 cv) (.slice al' nl' cl') [(y : Int)] (fun g hg => (show gv = g by simpa [Value.ownBlock] using hg) ▸ HOB.out) hgrow hfr (by simpa using hown')
        exact ⟨tag', _, q1, (T2.out.trans (TT.keep ((Tch.refl Non wA).alloc _))).trans q2⟩
  case rest =>
    obtain ⟨rfl, tag1, vs1, q1, q2⟩ := hcut
    clear H2 T2
    have e3 : s.vb = .slice (some ⟨go, 0, none⟩) (2 * n) co := HEO.out
    have k2 : wc.cell? ⟨grs, 3, none⟩ = some (.slice (some ⟨go, 0, none⟩) (2 * n) co) := (q1.blk.cell 3).trans (by rw [← e3]; rfl)
    have k4 : wc.cell? ⟨grs, 4, none⟩ = some (.int .i32 (s.srch + 1)) := q1.blk.cell 4
    have o3 : Own .i32 21 wc B (.slice (some ⟨go, 0, none⟩) (2 * n) co) s.beh := by have := q1.own 4; unfold Rs.own at this; rw [← e3]; exact this
    obtain ⟨u0, hu0, c3⟩ := o3.cell (i := y) (by rw [HL.out]; exact hy)
    have z3 := o3.frozen y
    obtain ⟨tag2, q3, q4⟩ := putBeh q1 (by exact e3) y (s.srch + 1)
    have hso : So (bwd A) y (2 * n) (s.srch + 1) (s.beh.set y (s.srch + 1)) [(y : Int)] := So.start HL.out (fun i v hv => by have := HLE.out i v hv; omega) hy
    have hout : Out w tag B grs gd n s y A (wc.setCell ⟨go, y, none⟩ (.int .i32 (s.srch + 1))) := ⟨tag2, _, _, _, _, q3, q2.trans q4, hso, by have h1 := un_set hu0 (S := s.srch + 1) (by have := HLE.out y u0 hu0; omega); have h2 := un_le (s.srch + 1) s.beh; have := HL.out; simp only [List.length_cons, List.length_nil]; omega⟩
    have HO := hide hout
    clear q1 q2 q3 q4 o3 hout hso e3 hu0
    go_upto_region 3 with fail
    go_cut [1] (fun v wx => v = .int .i32 (y : Int) ∧ Out w tag B grs gd n s y A wx)
    case first =>
      go_region
      all_goals
        go_wp2_with fail
        go_meet
        case rel => exact ⟨rfl, HO.out.keep ((Tch.refl _ _).drew)⟩
    case rest =>
      clear HO k2 k4 c3 z3
      rename_i wc0
      obtain ⟨rfl, ho⟩ := hcut
      have HO := hide ho
      clear ho
      go_wp2_with fail
      go_loopw [8] (fun t wr => Out w tag B grs gd n s y A wr) (fun t wr => ms wr grs go (2 * n) (s.srch + 1))
      case atStart => exact HO.out
      case round =>
        clear HO
        obtain ⟨tag3, beh, stk, vs, mk, hr, ht, hso, hun⟩ := hrel
        have o5 : Own .i32 21 wr B vs stk := hr.own 5
        have k5 : wr.cell? ⟨grs, 5, none⟩ = some vs := hr.blk.cell 5
        have k2 : wr.cell? ⟨grs, 3, none⟩ = some (.slice (some ⟨go, 0, none⟩) (2 * n) co) := (hr.blk.cell 3).trans (by rw [← HEO.out]; rfl)
        have o3 : Own .i32 21 wr B (.slice (some ⟨go, 0, none⟩) (2 * n) co) beh := by have := hr.own 4; unfold Rs.own at this; rw [← HEO.out]; exact this
        rcases List.eq_nil_or_concat stk with rfl | ⟨l, v, rfl⟩
        · obtain ⟨a5, n5, c5, e5⟩ := o5.slice
          subst e5
          obtain rfl : n5 = 0 := o5.len.symm
          have HR := hide hr
          have HT := hide ht
          have HSO := hide hso
          clear hr ht hso o5 o3
          go_wp2_with fail
          first | go_end0 | refine bodyPost_ret (results_none rfl _ _ _) rfl ?_
          obtain ⟨kp, k1, k2', k3⟩ := HKP.out
          refine ⟨_, rfl, { s with srch := s.srch + 1, beh := beh, stk := [], vs := _, marked := mk }, tag3, HR.out, G2.out.trans HT.out, ⟨kp.vr, kp.vo, kp.vb, kp.vy, kp.ys, kp.va, kp.nA, kp.vn, kp.near⟩, by rw [← k1], k2', HDN.out, ?_, fun q => ?_⟩
          · rw [← k1]; exact HSO.out.le
          · rw [← k1]; exact HSO.out.dfs.done (fun p hp => by simp at hp) q
        · rw [List.concat_eq_append] at *
          obtain ⟨p, rfl, hp, hsi⟩ := hso.pop
          rcases o5.form with ⟨ev, el⟩ | ⟨gv, cv, ev, hb, hlt, hlc, hcm⟩
          · simp at el
          have hms := ms_eq (S := s.srch + 1) (k5.trans (by rw [ev])) hso.len (fun i x hx => o3.at hx)
          have c5 : wr.cell? ⟨gv, l.length, none⟩ = some (.int .i32 (p : Int)) := by
            rw [ev] at o5
            exact o5.at (by simp)
          have e1 : (l ++ [(p : Int)]).length = l.length + 1 := by simp
          rw [e1] at ev hms hlc hun
          subst ev
          have f5 := hr.blk.frozen 5
          have oc : Own .i32 21 wr B (.slice (some ⟨gv, 0, none⟩) l.length cv) l := by
            have := o5.cut l.length (by simp)
            simpa using this
          obtain ⟨tag4, hr4, ht4⟩ := putStk hr (.slice (some ⟨gv, 0, none⟩) (l.length + 1) cv) (.slice (some ⟨gv, 0, none⟩) l.length cv) l (fun g hg => hg) (Tch.refl _ _) (fun k hk => .inl hk) oc
          have hinn : Inn w tag B grs gd n s y A p (fun _ => False) (l.length + un (s.srch + 1) beh) (wr.setCell ⟨grs, 5, none⟩ (.slice (some ⟨gv, 0, none⟩) l.length cv)) :=
            ⟨tag4, beh, l, _, mk, hr4, ht.trans ht4, hsi, rfl⟩
          have HI := hide hinn
          have HM := hide hms
          clear hr ht hso o5 o3 hsi oc hr4 ht4 hinn hms e1 k2
          generalize l.length = N at *
          have q1 : ((N : Int) + 1 - 1) = (N : Int) := by omega
          have q2 : (((N + 1 : Nat) : Int) - 1) = (N : Int) := by omega
          have q3 : (0 : Int) < ((N + 1 : Nat) : Int) := by omega
          have q4 : (N : Int) < ((N + 1 : Nat) : Int) := by omega
          have q5 : N < 20 := by omega
          have q6 : IntKind.i64.wrap (N : Int) = (N : Int) := IntWalk.i64_in _ (by omega)
          go_upto_region 5 with fail
          go_quiet (fail)
          go_upto_region 6 with fail
          go_cut [8] (fun t wx => t = .int .i32 (p : Int) ∧ Inn w tag B grs gd n s y A p (fun _ => False) (N + un (s.srch + 1) beh) wx)
          case first =>
            go_region
            all_goals
              go_wp2_with fail
              go_meet
              case rel => exact ⟨rfl, HI.out.keep ⟨rfl, rfl, rfl, Nat.le_refl _, fun _ _ _ => rfl⟩⟩
          case rest =>
            obtain ⟨rfl, hin⟩ := hcut
            have HIN := hide hin
            have hM : N + un (s.srch + 1) beh ≤ 2 * n := by omega
            have hmm : ms wr grs go (2 * n) (s.srch + 1) = (N + un (s.srch + 1) beh) + 1 := by rw [HM.out]; omega
            generalize N + un (s.srch + 1) beh = M at *
            have HMM := hide hmm
            clear hmm
            clear hin HI c5 k5 f5 q1 q2 q3 q4 q5 q6 hlc hcm hlt hb hun
            rename_i wc6
            obtain ⟨tag6, beh6, stk6, vs6, mk6, r1, r2, r3, r4⟩ := HIN.out
            have k6 : wc.cell? ⟨grs, 6, none⟩ = some (.slice (some ⟨gi, 0, none⟩) (2 * n + 1) (2 * n + 1)) := (r1.blk.cell 6).trans (by rw [← HVI.out]; rfl)
            have k7 : wc.cell? ⟨grs, 7, none⟩ = some (.slice (some ⟨gt, 0, none⟩) m m) := (r1.blk.cell 7).trans (by rw [← HVT.out]; rfl)
            have o6 : Own .i32 21 wc B (.slice (some ⟨gi, 0, none⟩) (2 * n + 1) (2 * n + 1)) s.into := by have := r1.own 6; unfold Rs.own at this; rw [← HVI.out]; exact this
            have ci := o6.at (HCS.out.starts p (by omega))
            have cj := o6.at (HCS.out.starts (p + 1) (by omega))
            clear r1 r2 r3 r4 o6
            rw [← seen_zero (A := A') (hd := s.tls) (p := p)] at HIN
            have hkb := below_succ (fsOf A') p
            have hbm := below_le (fsOf A') (p + 1)
            have hfl : (fsOf A').length = m := by unfold fsOf; rw [List.length_map]; exact HLA.out
            rw [hfl] at hbm
            generalize hbi : below (fsOf A') p = bi at *
            generalize hbj : below (fsOf A') (p + 1) = bj at *
            have hij : bi ≤ bj := by omega
            have HBI := hide hbi
            have HBJ := hide hbj
            clear hkb hfl hbi hbj
            have eK : ((bj : Int) - (bi : Int)).toNat = bj - bi := by omega
            go_upto_region 9 with fail
            go_cut [97, 98, 99] (fun a b c wx => ∃ o cc : Nat, a = .slice (some ⟨gt, o, none⟩) (bj - bi) cc ∧ b = .int .i64 ((bj - bi : Nat) : Int) ∧ c = .int .i64 0 ∧ (∀ j : Nat, j < bj - bi → o + j = bi + j) ∧ Inn w tag B grs gd n s y A p (Fwd.seen A' s.tls p 0) M wx)
            case first =>
              by_cases hc : bi = m
              · obtain rfl : bj = bi := by omega
                subst hc
                go_quiet (fail)
                go_wp2_with fail
                go_meet
                case rel =>
                  refine ⟨0, 0, by first | rfl | simp, by first | rfl | simp, rfl, fun j hj => by omega, HIN.out.keep ⟨rfl, rfl, rfl, Nat.le_refl _, fun _ _ _ => rfl⟩⟩
              · go_quiet (fail)
                go_wp2_with fail
                go_meet
                case rel =>
                  refine ⟨_, _, by first | rfl | simp, by first | rfl | simp | (congr 1; omega), rfl, fun j hj => by omega, HIN.out.keep ⟨rfl, rfl, rfl, Nat.le_refl _, fun _ _ _ => rfl⟩⟩
            case rest =>
              rename_i wc9
              obtain ⟨o, cc, rfl, rfl, rfl, hcell, hin⟩ := hcut
              clear HIN k6 k7 ci cj eK
              have HIN := hide hin
              have HCELL := hide hcell
              generalize hK : bj - bi = K at *
              have HKK := hide hK
              have hK2 : K ≤ 2000 := by omega
              clear hK hin hcell
              go_wp2_with fail
              go_loopw [99] (fun t wi => ∃ j : Nat, j ≤ K ∧ t = .int .i64 j ∧ Inn w tag B grs gd n s y A p (Fwd.seen A' s.tls p j) M wi) (fun t _ => K - (intOf t).toNat)
              case atStart => exact ⟨0, Nat.zero_le _, rfl, HIN.out⟩
              case round =>
                clear HIN qf
                obtain ⟨j, hj, rfl, tag7, beh7, stk7, vs7, mk7, r1, r2, r3, r4⟩ := hrel
                by_cases hjk : j < K
                · obtain ⟨h, hph', hhd⟩ := HCS.out.seg_of (p := p) (k := below (fsOf A') p + j) (by omega) (by have := HKK.out; rw [HBI.out, HBJ.out]; omega)
                  have hph : (h, p) ∈ A := (HMEM.out p h).1 hph'
                  have hh := (HD.out.hA h p hph).1
                  have dg := HD.out.tt r2
                  have o7 : Own .i32 21 wr B (.slice (some ⟨gt, 0, none⟩) m m) s.tls := by have := r1.own 7; unfold Rs.own at this; rw [← HVT.out]; exact this
                  have ch : wr.cell? ⟨gt, o + j, none⟩ = some (.int .i32 h) := by rw [HCELL.out j hjk, ← HBI.out]; exact o7.at hhd
                  clear o7
                  have k2 : wr.cell? ⟨grs, 3, none⟩ = some (.slice (some ⟨go, 0, none⟩) (2 * n) co) := (r1.blk.cell 3).trans (by rw [← HEO.out]; rfl)
                  have k4 : wr.cell? ⟨grs, 4, none⟩ = some (.int .i32 (s.srch + 1)) := r1.blk.cell 4
                  have o3 : Own .i32 21 wr B (.slice (some ⟨go, 0, none⟩) (2 * n) co) beh7 := by have := r1.own 4; unfold Rs.own at this; rw [← HEO.out]; exact this
                  obtain ⟨u7, hu7, c3⟩ := o3.cell (i := h) (by rw [r3.len]; exact hh)
                  have z3 := o3.frozen h
                  have hseen := seen_succ (A := A') (p := p) hhd
                  by_cases hm7 : u7 = s.srch + 1
                  · have hsi := r3.skip (t := h) (.inl (hm7 ▸ hu7))
                    rw [hseen] at hsi
                    have HI7 := hide (show Inn w tag B grs gd n s y A p (Fwd.seen A' s.tls p (j + 1)) M wr from ⟨tag7, beh7, stk7, vs7, mk7, r1, r2, hsi, r4⟩)
                    have hb7 : (u7 != s.srch + 1) = false := by simp [hm7]
                    clear hsi hseen hm7 r1 r2 r3 r4 o3 hu7 dg hph hhd z3
                    go_upto_region 12 with fail
                    go_quiet (fail)
                    go_wp2_with fail
                    go_roundw
                    case rel => exact ⟨j + 1, by omega, rfl, HI7.out.keep ⟨rfl, rfl, rfl, Nat.le_refl _, fun _ _ _ => rfl⟩⟩
                    case measure => simp [intOf]; omega
                  · have HPA := hide (show ∀ k, Calls Ybad.prog 24 #[.int .i32 (h : Int), .pointer (some ⟨b1, 0, none⟩), .pointer (some ⟨b2, 0, none⟩), .pointer (some ⟨b3, 0, none⟩)] (wr.drewN k) fun e w' => e = .returned (.bool (decide (h % 2 = 0))) ∧ ∃ q, w' = (wr.drewN k).drewN q from
                      fun k => rpass_any (wr.drewN k) B grs gd gg ga gh gs n m cl gr b1 b2 b3 h cr al tag7 _ A st hd (r1.drewN k) (dg.tt ((TT.refl _ _).drewN k)) HER.out (HF.out.1.tt r2).1 (HF.out.2.1.tt r2).1 (HF.out.2.2.tt r2).1 hh)
                    have hb7 : (u7 != s.srch + 1) = true := by simp [hm7]
                    by_cases hev : h % 2 = 0
                    · have e : decide (h % 2 = 0) = true := by simp [hev]
                      rw [e] at HPA
                      obtain ⟨tag8, q1, q2⟩ := putBeh r1 (by exact HEO.out) h (s.srch + 1)
                      have hsi := r3.push hh hev hph
                      rw [hseen] at hsi
                      have hun := un_set hu7 hm7
                      have Q1 := hide q1
                      have Q2 := hide (r2.trans q2)
                      have HSI := hide hsi
                      have HUN := hide hun
                      have hs7 : stk7.length < 20 := by omega
                      have HR4 := hide r4
                      clear hsi hseen hm7 r1 r2 r3 r4 o3 hu7 dg hph hhd hev e q1 q2 hun
                      go_upto_region 12 with fail
                      go_quiet ((go_at_call 24; exact Calls.quiet_of (HPA.out _)))
                      go_upto_region 13 with fail
                      go_cut [1] (fun v wx => v = .int .i32 (y : Int) ∧ RS wx B grs gd (2 * n) tag8 { s with srch := s.srch + 1, beh := beh7.set h (s.srch + 1), stk := stk7, vs := vs7, marked := mk7 } ∧ TT tag w tag8 wx)
                      case first =>
                        go_region
                        all_goals
                          go_wp2_with fail
                          go_meet
                          case rel => exact ⟨rfl, Q1.out.keep ⟨rfl, rfl, rfl, Nat.le_refl _, fun _ _ _ => rfl⟩, Q2.out.trans (TT.keep ⟨rfl, rfl, rfl, Nat.le_refl _, fun _ _ _ => rfl⟩)⟩
                      case rest =>
                        obtain ⟨rfl, q1, q2⟩ := hcut
                        have k12 : wc.cell? ⟨grs, 12, none⟩ = some (.int .i64 mk7) := q1.blk.cell 12
                        have z12 := q1.blk.frozen 12
                        have HPM := hide (putMarked q1)
                        have Q3 := hide q2
                        clear Q1 Q2 q1 q2 c3 z3 k2 k4 ch HPA hb7
                        go_upto_region 15 with fail
                        generalize hW : World.setCell wc _ _ = W
                        obtain ⟨X, hX⟩ : ∃ X, W = wc.setCell ⟨grs, 12, none⟩ (.int .i64 X) := ⟨_, hW.symm⟩
                        have q5 := HPM.out X
                        rw [← hX] at q5
                        have o5 : Own .i32 21 W B vs7 stk7 := q5.1.own 5
                        obtain ⟨a7, n7, c7, e7⟩ := o5.slice
                        subst e7
                        have k5 : W.cell? ⟨grs, 5, none⟩ = some (.slice a7 n7 c7) := q5.1.blk.cell 5
                        have hBW := q5.1.hB
                        have Q5 := hide q5.1
                        have Q6 := hide (Q3.out.trans q5.2)
                        have O5 := hide o5
                        clear hW hX q5 o5 HPM Q3 k12 z12
                        go_wp2_with (at_builtin; go_must (refine wpList_app (v := .slice a7 n7 c7) _ rfl (.tmp 141) (.tmp 143) .i32 21 24 rfl i0 4 (by omega) Ybad.underlying24 hi hz0 hz1 hz2 rfl (by exact O5.out.alloc _) rfl (by exact Src.one .i32 21 W (h : Int) 1) (by simp only [List.length_cons, List.length_nil]; omega) (by simp only [World.size_alloc]; omega) ?_; intro v' w1 hown' hgrow hfr; obtain ⟨al', nl', cl', hv'⟩ := hown'.slice; subst hv'; have hb1 : Blk w1 grs 57 _ := (Q5.out.blk.alloc _).touch hgrow (fun hm => own_not_grs Q5.out 5 (by decide) hm rfl); have hx1 : w1.cell? ⟨grs, 5, none⟩ = some (.slice a7 n7 c7) := hb1.cell 5; have hf1 := hb1.frozen 5; clear hb1))
                        go_roundw
                        case rel =>
                          obtain ⟨tag9, q8, q9⟩ := putStk (Q5.out.keep ((Tch.refl Non W).alloc (.cells #[.int .i32 (h : Int)] 21))) (.slice a7 n7 c7) (.slice al' nl' cl') (stk7 ++ [(h : Int)]) (fun g hg => hg) hgrow hfr hown'
                          exact ⟨j + 1, by omega, rfl, tag9, beh7.set h (s.srch + 1), stk7 ++ [(h : Int)], _, _, q8, (Q6.out.trans (TT.keep ((Tch.refl Non W).alloc _))).trans q9, HSI.out, by have := HUN.out; have := HR4.out; simp only [List.length_append, List.length_cons, List.length_nil]; omega⟩
                        case measure => simp [intOf]; omega
                    · have e : decide (h % 2 = 0) = false := by simp [hev]
                      rw [e] at HPA
                      have hsi := r3.skip (t := h) (.inr hev)
                      rw [hseen] at hsi
                      have HI7 := hide (show Inn w tag B grs gd n s y A p (Fwd.seen A' s.tls p (j + 1)) M wr from ⟨tag7, beh7, stk7, vs7, mk7, r1, r2, hsi, r4⟩)
                      clear hsi hseen hm7 r1 r2 r3 r4 o3 hu7 dg hph hhd z3 hev e
                      go_upto_region 12 with fail
                      go_quiet ((go_at_call 24; exact Calls.quiet_of (HPA.out _)))
                      go_wp2_with fail
                      go_roundw
                      case rel => exact ⟨j + 1, by omega, rfl, HI7.out.keep ⟨rfl, rfl, rfl, Nat.le_refl _, fun _ _ _ => rfl⟩⟩
                      case measure => simp [intOf]; omega
                · obtain rfl : j = K := by omega
                  have hso7 := r3.fin (fun b hb => by
                    obtain ⟨k, h1, h2, h3⟩ := HCS.out.of_arc ((HMEM.out p b).2 hb)
                    have := HKK.out
                    have e1 := HBI.out
                    have e2 := HBJ.out
                    exact ⟨k - below (fsOf A') p, by omega, by rw [show below (fsOf A') p + (k - below (fsOf A') p) = k by omega]; exact h3⟩)
                  obtain ⟨a7, n7, c7, e7⟩ := (show Own .i32 21 wr B vs7 stk7 from r1.own 5).slice
                  have k5 : wr.cell? ⟨grs, 5, none⟩ = some (.slice a7 n7 c7) := (r1.blk.cell 5).trans (by rw [← e7]; rfl)
                  have o3 : Own .i32 21 wr B (.slice (some ⟨go, 0, none⟩) (2 * n) co) beh7 := by have := r1.own 4; unfold Rs.own at this; rw [← HEO.out]; exact this
                  have hn7 : stk7.length = n7 := by have : Own .i32 21 wr B vs7 stk7 := r1.own 5; rw [e7] at this; exact this.len
                  have hms := ms_eq (S := s.srch + 1) k5 r3.len (fun i x hx => o3.at hx)
                  have hout : Out w tag B grs gd n s y A wr := ⟨tag7, beh7, stk7, vs7, mk7, r1, r2, hso7, by omega⟩
                  have hlt : ms wr grs go (2 * n) (s.srch + 1) < M + 1 := by rw [hms]; omega
                  have HO := hide hout
                  have HLT := hide hlt
                  clear hso7 k5 o3 hn7 hms hout hlt r1 r2 r3 r4 e7
                  go_wp2_with fail
                  go_roundw
                  case rel => exact HO.out
                  case measure => rw [HMM.out]; exact HLT.out
end Go.Proofs.YbulkaxcDoor.Back
