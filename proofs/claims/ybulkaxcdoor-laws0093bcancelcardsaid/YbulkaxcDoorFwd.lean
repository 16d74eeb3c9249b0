/-
  roundSearch.forward, by contract.
-/
import Derived.Test.YbulkaxcDoorSearch
import Derived.Deep.RegionLaw
import Derived.WalkSpells
namespace Go.Proofs.YbulkaxcDoor.Fwd
open Go Go.RowKit Go.Proofs.YbulkaxcDoor.Mem Go.Proofs.YbulkaxcDoor.Pl Go.Proofs.YbulkaxcDoor.RS Go.Proofs.YbulkaxcDoor.Dg Go.Proofs.YbulkaxcDoor.Sr
set_option linter.unusedVariables false

theorem info21 : (Ybad.prog.info? 21).map (fun i => (i.zero, i.size, i.bytes)) = some (some (.int .i32 0), 1, 4) := by kernel_rfl

theorem equalIn_func (w : World) (d : Nat) (f : Fn) (a c : Array Value) : (Op.equalIn (d + 1) 75 (.func f a c) .nilFunc).run Ybad.prog w = .ok false w := by
  simp [Op.equalIn, run_underlying Ybad.underlying75]
theorem neq_func (w : World) (f : Fn) (a c : Array Value) : (binOp .neq 75 (.func f a c) .nilFunc).run Ybad.prog w = .ok (.bool true) w := by
  simp only [binOp]
  simp [Op.equal, Op.maxDepth, equalIn_func w 9999 f a c]

def Out (w : World) (tag : Nat → Nat) (B grs gd n : Nat) (s : Rs) (y x : Nat) (A : List (Nat × Nat)) (wr : World) : Prop :=
  ∃ tag' onw stk vs mk, RS wr B grs gd (2 * n) tag' { s with srch := s.srch + 1, onw := onw, stk := stk, vs := vs, marked := mk } ∧ TT tag w tag' wr ∧ So (fwd A) y (2 * n) (s.srch + 1) onw stk ∧ stk.length + un (s.srch + 1) onw ≤ 2 * n ∧ (onw[x]? = some (s.srch + 1) → (x : Int) ∈ stk)
theorem Out.keep {w : World} {tag : Nat → Nat} {B grs gd n : Nat} {s : Rs} {y x : Nat} {A : List (Nat × Nat)} {wr wr' : World} (h : Out w tag B grs gd n s y x A wr) (t : Tch Non wr wr') : Out w tag B grs gd n s y x A wr' := by
  obtain ⟨tag', onw, stk, vs, mk, h1, h2, h3⟩ := h
  exact ⟨tag', onw, stk, vs, mk, h1.keep t, h2.trans (TT.keep t), h3⟩
theorem un_le (S : Int) (ml : List Int) : un S ml ≤ ml.length := List.countP_le_length
def Inn (w : World) (tag : Nat → Nat) (B grs gd n : Nat) (s : Rs) (y x : Nat) (A : List (Nat × Nat)) (p : Nat) (done : Nat → Prop) (M : Nat) (wr : World) : Prop :=
  ∃ tag' onw stk vs mk, RS wr B grs gd (2 * n) tag' { s with srch := s.srch + 1, onw := onw, stk := stk, vs := vs, marked := mk } ∧ TT tag w tag' wr ∧ Si (fwd A) y (2 * n) (s.srch + 1) onw stk p done ∧ stk.length + un (s.srch + 1) onw = M ∧ (onw[x]? = some (s.srch + 1) → (x : Int) ∈ stk ∨ x = p)

theorem Inn.keep {w : World} {tag : Nat → Nat} {B grs gd n : Nat} {s : Rs} {y x : Nat} {A : List (Nat × Nat)} {p : Nat} {done : Nat → Prop} {M : Nat} {wr wr' : World} (h : Inn w tag B grs gd n s y x A p done M wr) (t : Tch Non wr wr') : Inn w tag B grs gd n s y x A p done M wr' := by
  obtain ⟨tag', onw, stk, vs, mk, h1, h2, h3⟩ := h
  exact ⟨tag', onw, stk, vs, mk, h1.keep t, h2.trans (TT.keep t), h3⟩
/-- The heads of place p. -/
theorem from_at {w : World} {tag : Nat → Nat} {gd gg ga gh gs n m : Nat} {al : Option Addr} {cl : Nat} {A : List (Nat × Nat)} {st hd : List Int} (d : DG w tag gd gg ga gh gs n m al cl A st hd) (p : Nat) (hp : p < 2 * n) :
    Calls Ybad.prog 17 #[.pointer (some ⟨gd, 0, none⟩), .int .i32 (p : Int)] w fun e w' => ∃ va o c, e = .returned (.tuple #[va, .slice (some ⟨gh, o, none⟩) (below (fsOf A) (p + 1) - below (fsOf A) p) c]) ∧ (∀ j : Nat, j < below (fsOf A) (p + 1) - below (fsOf A) p → o + j = below (fsOf A) p + j) ∧ ∃ q, w' = w.drewN q := by
  have hb1 := below_succ (fsOf A) p
  have hb2 := below_le (fsOf A) (p + 1)
  have hl : (fsOf A).length = m := by unfold fsOf; rw [List.length_map]; exact d.lenA
  have hn := d.hn
  have hm := d.hm
  refine (Small.from_any gd ga gh gs m (2 * n) 0 0 (2 * n + 1) (p : Int) ((below (fsOf A) p : Nat) : Int) ((below (fsOf A) (p + 1) : Nat) : Int) w d.c4.1 d.c5.1 d.c6.1 (by omega) (by omega) (by omega) (by omega)
    (by rw [Int.toNat_natCast]; exact (d.vs p _ (d.csr.starts p (by omega))).1) (by rw [Int.toNat_natCast]; exact (d.vs (p + 1) _ (d.csr.starts (p + 1) (by omega))).1) (by omega) (by omega) (by omega)).mono ?_
  rintro e w' ⟨va, o, c, rfl, ho, hq⟩
  refine ⟨va, o, c, ?_, fun j hj => ?_, hq⟩
  · rw [show (((below (fsOf A) (p + 1) : Nat) : Int) - ((below (fsOf A) p : Nat) : Int)).toNat = below (fsOf A) (p + 1) - below (fsOf A) p by omega]
  · rw [ho (by omega), Int.toNat_natCast]

/-- The heads that have been seen. -/
def seen (A : List (Nat × Nat)) (hd : List Int) (p j b : Nat) : Prop := ∃ i : Nat, i < j ∧ hd[below (fsOf A) p + i]? = some (b : Int)
theorem seen_succ {A : List (Nat × Nat)} {hd : List Int} {p j h : Nat} (hh : hd[below (fsOf A) p + j]? = some (h : Int)) : (fun b => seen A hd p j b ∨ b = h) = seen A hd p (j + 1) := by
  funext b
  apply propext
  constructor
  · rintro (⟨i, hi, e⟩ | rfl)
    · exact ⟨i, by omega, e⟩
    · exact ⟨j, by omega, hh⟩
  · rintro ⟨i, hi, e⟩
    by_cases hij : i = j
    · subst hij
      rw [hh] at e
      right
      have : (h : Int) = (b : Int) := by simpa using e
      omega
    · exact .inl ⟨i, by omega, e⟩
theorem seen_zero {A : List (Nat × Nat)} {hd : List Int} {p : Nat} : seen A hd p 0 = fun _ => False := by
  funext b
  apply propext
  constructor
  · rintro ⟨i, hi, _⟩; omega
  · exact False.elim

set_option maxRecDepth 10000 in
set_option maxHeartbeats 2000000 in
theorem forward_any (w : World) (B grs gd gg ga gh gs n m cl gr go cr co b1 b2 b3 b4 y x : Nat) (al : Option Addr) (tag : Nat → Nat) (s : Rs) (A : List (Nat × Nat)) (st hd : List Int) (h : RS w B grs gd (2 * n) tag s) (d : DG w tag gd gg ga gh gs n m al cl A st hd)
    (er : s.vr = .slice (some ⟨gr, 0, none⟩) (2 * n) cr) (eo : s.vo = .slice (some ⟨go, 0, none⟩) (2 * n) co)
    (f1 : Fix w tag ⟨b1, 0, none⟩ (.pointer (some ⟨grs, 0, none⟩))) (f2 : Fix w tag ⟨b2, 0, none⟩ (.int .i32 (x : Int))) (f3 : Fix w tag ⟨b3, 0, none⟩ (.pointer (some ⟨gd, 0, none⟩))) (f4 : Fix w tag ⟨b4, 0, none⟩ (.bool true))
    (hle : ∀ (i : Nat) (v : Int), s.onw[i]? = some v → v ≤ s.srch) (hs0 : 0 ≤ s.srch) (hs1 : s.srch ≤ 1000) (hy : y < 2 * n) (hx : x < 2 * n) :
    Calls Ybad.prog 20 #[.pointer (some ⟨grs, 0, none⟩), .int .i32 (y : Int), .func (.func 21) #[] #[.pointer (some ⟨b1, 0, none⟩), .pointer (some ⟨b2, 0, none⟩), .pointer (some ⟨b3, 0, none⟩)], .func (.func 22) #[] #[.pointer (some ⟨b2, 0, none⟩), .pointer (some ⟨b4, 0, none⟩)]] w
      fun e w' => ∃ b tag' onw stk vs mk, e = .returned (.bool b) ∧ RS w' B grs gd (2 * n) tag' { s with srch := s.srch + 1, onw := onw, stk := stk, vs := vs, marked := mk } ∧ TT tag w tag' w' ∧ (∀ (i : Nat) (v : Int), onw[i]? = some v → v ≤ s.srch + 1) ∧ (b = true → R A y x) ∧ (b = false → ¬ R A y x ∧ onw[x]? ≠ some (s.srch + 1)) := by
  obtain ⟨i0, hi, hz0, hz1, hz2⟩ := info_parts info21
  have hlo : s.onw.length = 2 * n := by have := h.own 3; unfold Rs.own at this; rw [eo] at this; exact this.len
  have k4 : w.cell? ⟨grs, 4, none⟩ = some (.int .i32 s.srch) := h.blk.cell 4
  have z4 := h.blk.frozen 4
  obtain ⟨h2, t2⟩ := putSrch h (s.srch + 1)
  have H2 := hide h2
  have T2 := hide t2
  have HD := hide d
  have HER := hide er
  have HEO := hide eo
  have HF := hide (And.intro f1 (And.intro f2 (And.intro f3 f4)))
  have HL := hide hlo
  have HLE := hide hle
  have hn := d.hn
  clear h2 t2 d f1 f2 f3 f4 hlo hle h er eo
  go_enter Ybad.func20, Ybad.ntmps20
  go_upto_region 2 with fail
  generalize w.setCell ⟨grs, 4, none⟩ (.int .i32 (s.srch + 1)) = wA at *
  clear k4 z4
  go_cut [1] (fun v wc => v = .int .i32 (y : Int) ∧ ∃ tag' vs, RS wc B grs gd (2 * n) tag' { s with srch := s.srch + 1, stk := [(y : Int)], vs := vs } ∧ TT tag w tag' wc)
  case first =>
    have o5 : Own .i32 21 wA B s.vs s.stk := H2.out.own 5
    have k5 : wA.cell? ⟨grs, 5, none⟩ = some s.vs := H2.out.blk.cell 5
    have hB := H2.out.hB
    rcases o5.form with ⟨ev, el⟩ | ⟨gv, cv, ev, hb, hlt, hlc, hcm⟩
    · rw [ev] at k5
      have EV := hide ev
      have EL := hide el
      clear o5 ev el
      go_wp2_with (at_builtin; go_must (refine wpList_app (v := .slice none 0 0) _ rfl (.tmp 26) (.tmp 28) .i32 21 24 rfl i0 4 (by omega) Ybad.underlying24 hi hz0 hz1 hz2 rfl (Own.nil .i32 21 _ B) rfl (by exact Src.one .i32 21 wA (y : Int) 1) (by simp only [List.length_cons, List.length_nil]; omega) (by simp only [World.size_alloc]; omega) ?_; intro v' w1 hown' hgrow hfr; obtain ⟨al', nl', cl', hv'⟩ := hown'.slice; subst hv'; have hb1 : Blk w1 grs 57 _ := (H2.out.blk.alloc _).touch hgrow (by simp [Value.ownBlock]); have hx1 : w1.cell? ⟨grs, 5, none⟩ = some (.slice none 0 0) := (hb1.cell 5).trans (by rw [← EV.out]; rfl); have hf1 := hb1.frozen 5; clear hb1))
      go_meet
      case rel =>
        refine ⟨rfl, ?_⟩
        obtain ⟨tag', q1, q2⟩ := putStk (H2.out.keep ((Tch.refl Non wA).alloc (.cells #[.int .i32 (y : Int)] 21))) (.slice none 0 0) (.slice al' nl' cl') [(y : Int)] (by simp [Value.ownBlock]) hgrow hfr hown'
        exact ⟨tag', _, q1, (T2.out.trans (TT.keep ((Tch.refl Non wA).alloc _))).trans q2⟩
    · rw [ev] at k5
      rw [ev] at o5
      have o6 := o5.cut 0 (Nat.zero_le _)
      have O6 := hide o6
      have EV := hide ev
      have hob : s.vs.ownBlock = some gv := by rw [ev]; rfl
      have HOB := hide hob
      clear o5 o6 ev hob
      generalize s.stk.length = N5 at *
      go_wp2_with (at_builtin; go_must (refine wpList_app (v := .slice (some ⟨gv, 0, none⟩) 0 cv) _ rfl (.tmp 26) (.tmp 28) .i32 21 24 rfl i0 4 (by omega) Ybad.underlying24 hi hz0 hz1 hz2 rfl (by exact O6.out.alloc _) rfl (by exact Src.one .i32 21 wA (y : Int) 1) (by simp only [List.take_zero, List.length_cons, List.length_nil]; omega) (by simp only [World.size_alloc]; omega) ?_; intro v' w1 hown' hgrow hfr; obtain ⟨al', nl', cl', hv'⟩ := hown'.slice; subst hv'; have hb1 : Blk w1 grs 57 _ := (H2.out.blk.alloc _).touch hgrow (fun hm => own_not_grs H2.out 5 (by decide) (g := grs) ((show gv = grs by simpa [Value.ownBlock] using hm) ▸ HOB.out) rfl); have hx1 : w1.cell? ⟨grs, 5, none⟩ = some (.slice (some ⟨gv, 0, none⟩) N5 cv) := (hb1.cell 5).trans (by rw [← EV.out]; rfl); have hf1 := hb1.frozen 5; clear hb1))
      go_meet
      case rel =>
        refine ⟨rfl, ?_⟩
        obtain ⟨tag', q1, q2⟩ := putStk (H2.out.keep ((Tch.refl Non wA).alloc (.cells #[.int .i32 (y : Int)] 21))) (.slice (some ⟨gv, 0, none⟩) 0 cv) (.slice al' nl' cl') [(y : Int)] (fun g hg => (show gv = g by simpa [Value.ownBlock] using hg) ▸ HOB.out) hgrow hfr (by simpa using hown')
        exact ⟨tag', _, q1, (T2.out.trans (TT.keep ((Tch.refl Non wA).alloc _))).trans q2⟩
  case rest =>
    obtain ⟨rfl, tag1, vs1, q1, q2⟩ := hcut
    clear H2 T2
    have e3 : s.vo = .slice (some ⟨go, 0, none⟩) (2 * n) co := HEO.out
    have k2 : wc.cell? ⟨grs, 2, none⟩ = some (.slice (some ⟨go, 0, none⟩) (2 * n) co) := (q1.blk.cell 2).trans (by rw [← e3]; rfl)
    have k4 : wc.cell? ⟨grs, 4, none⟩ = some (.int .i32 (s.srch + 1)) := q1.blk.cell 4
    have o3 : Own .i32 21 wc B (.slice (some ⟨go, 0, none⟩) (2 * n) co) s.onw := by have := q1.own 3; unfold Rs.own at this; rw [← e3]; exact this
    obtain ⟨u0, hu0, c3⟩ := o3.cell (i := y) (by rw [HL.out]; exact hy)
    have z3 := o3.frozen y
    obtain ⟨tag2, q3, q4⟩ := putOnw q1 (by exact e3) y (s.srch + 1)
    have hso : So (fwd A) y (2 * n) (s.srch + 1) (s.onw.set y (s.srch + 1)) [(y : Int)] := So.start HL.out (fun i v hv => by have := HLE.out i v hv; omega) hy
    have hout : Out w tag B grs gd n s y x A (wc.setCell ⟨go, y, none⟩ (.int .i32 (s.srch + 1))) := ⟨tag2, _, _, _, _, q3, q2.trans q4, hso, by have h1 := un_set hu0 (S := s.srch + 1) (by have := HLE.out y u0 hu0; omega); have h2 := un_le (s.srch + 1) s.onw; have := HL.out; simp only [List.length_cons, List.length_nil]; omega, fun hm => by
      rcases (set_some (by rw [HL.out]; exact hy)).1 hm with h1 | h1
      · simp [h1]
      · have := HLE.out x _ h1; omega⟩
    have HO := hide hout
    clear q1 q2 q3 q4 o3 hout hso e3 hu0
    go_upto_region 3 with fail
    go_cut [1] (fun v wx => v = .int .i32 (y : Int) ∧ Out w tag B grs gd n s y x A wx)
    case first =>
      go_region
      all_goals
        go_wp2_with fail
        go_meet
        case rel => exact ⟨rfl, HO.out.keep ((Tch.refl _ _).drew)⟩
    case rest =>
      clear HO k2 k4 c3 z3
      rename_i wc0
      obtain ⟨rfl, ho⟩ := hcut
      have HO := hide ho
      clear ho
      go_wp2_with fail
      go_loopw [9] (fun t wr => Out w tag B grs gd n s y x A wr) (fun t wr => ms wr grs go (2 * n) (s.srch + 1))
      case atStart => exact HO.out
      case round =>
        clear HO
        obtain ⟨tag3, onw, stk, vs, mk, hr, ht, hso, hun, hxs⟩ := hrel
        have HXS := hide hxs
        clear hxs
        have o5 : Own .i32 21 wr B vs stk := hr.own 5
        have k5 : wr.cell? ⟨grs, 5, none⟩ = some vs := hr.blk.cell 5
        have k2 : wr.cell? ⟨grs, 2, none⟩ = some (.slice (some ⟨go, 0, none⟩) (2 * n) co) := (hr.blk.cell 2).trans (by rw [← HEO.out]; rfl)
        have o3 : Own .i32 21 wr B (.slice (some ⟨go, 0, none⟩) (2 * n) co) onw := by have := hr.own 3; unfold Rs.own at this; rw [← HEO.out]; exact this
        rcases List.eq_nil_or_concat stk with rfl | ⟨l, v, rfl⟩
        · obtain ⟨a5, n5, c5, e5⟩ := o5.slice
          subst e5
          obtain rfl : n5 = 0 := o5.len.symm
          have HR := hide hr
          have HT := hide ht
          have HSO := hide hso
          clear hr ht hso o5 o3
          go_wp2_with fail
          go_ret
          refine ⟨false, tag3, onw, [], _, mk, rfl, HR.out, HT.out, HSO.out.le, (fun h => by cases h), fun _ => ?_⟩
          have hno : onw[x]? ≠ some (s.srch + 1) := fun h => by have := HXS.out h; simp at this
          exact ⟨fun h => hno ((HSO.out.dfs.done (fun p hp => by simp at hp) x).2 h), hno⟩
        · rw [List.concat_eq_append] at *
          obtain ⟨p, rfl, hp, hsi⟩ := hso.pop
          rcases o5.form with ⟨ev, el⟩ | ⟨gv, cv, ev, hb, hlt, hlc, hcm⟩
          · simp at el
          have hms := ms_eq (S := s.srch + 1) (k5.trans (by rw [ev])) hso.len (fun i x hx => o3.at hx)
          have c5 : wr.cell? ⟨gv, l.length, none⟩ = some (.int .i32 (p : Int)) := by
            rw [ev] at o5
            exact o5.at (by simp)
          have e1 : (l ++ [(p : Int)]).length = l.length + 1 := by simp
          rw [e1] at ev hms hlc hun
          subst ev
          have f5 := hr.blk.frozen 5
          have oc : Own .i32 21 wr B (.slice (some ⟨gv, 0, none⟩) l.length cv) l := by
            have := o5.cut l.length (by simp)
            simpa using this
          obtain ⟨tag4, hr4, ht4⟩ := putStk hr (.slice (some ⟨gv, 0, none⟩) (l.length + 1) cv) (.slice (some ⟨gv, 0, none⟩) l.length cv) l (fun g hg => hg) (Tch.refl _ _) (fun k hk => .inl hk) oc
          have hinn : Inn w tag B grs gd n s y x A p (fun _ => False) (l.length + un (s.srch + 1) onw) (wr.setCell ⟨grs, 5, none⟩ (.slice (some ⟨gv, 0, none⟩) l.length cv)) :=
            ⟨tag4, onw, l, _, mk, hr4, ht.trans ht4, hsi, rfl, fun h => by have := HXS.out h; simp only [List.mem_append, List.mem_singleton] at this; exact this.imp id (fun h1 => by omega)⟩
          have HI := hide hinn
          have HM := hide hms
          clear hr ht hso o5 o3 hsi oc hr4 ht4 hinn hms e1 k2
          generalize l.length = N at *
          have q1 : ((N : Int) + 1 - 1) = (N : Int) := by omega
          have q2 : (((N + 1 : Nat) : Int) - 1) = (N : Int) := by omega
          have q3 : (0 : Int) < ((N + 1 : Nat) : Int) := by omega
          have q4 : (N : Int) < ((N + 1 : Nat) : Int) := by omega
          have q5 : N < 20 := by omega
          have q6 : IntKind.i64.wrap (N : Int) = (N : Int) := IntWalk.i64_in _ (by omega)
          go_upto_region 5 with fail
          go_quiet (fail)
          go_upto_region 6 with fail
          go_cut [9] (fun t wx => t = .int .i32 (p : Int) ∧ Inn w tag B grs gd n s y x A p (fun _ => False) (N + un (s.srch + 1) onw) wx)
          case first =>
            go_region
            all_goals
              go_wp2_with fail
              go_meet
              case rel => exact ⟨rfl, HI.out.keep ⟨rfl, rfl, rfl, Nat.le_refl _, fun _ _ _ => rfl⟩⟩
          case rest =>
            obtain ⟨rfl, hin⟩ := hcut
            have HIN := hide hin
            have hM : N + un (s.srch + 1) onw ≤ 2 * n := by omega
            have hmm : ms wr grs go (2 * n) (s.srch + 1) = (N + un (s.srch + 1) onw) + 1 := by rw [HM.out]; omega
            generalize N + un (s.srch + 1) onw = M at *
            have HMM := hide hmm
            clear hmm
            clear hin HI c5 k5 f5 q1 q2 q3 q4 q5 q6 hlc hcm hlt hb hun
            rename_i wc6
            obtain ⟨tag6, onw6, stk6, vs6, mk6, r1, r2, r3, r4, _⟩ := HIN.out
            have f1 := HF.out.1.tt r2
            have f2 := HF.out.2.1.tt r2
            have f3 := HF.out.2.2.1.tt r2
            have f4 := HF.out.2.2.2.tt r2
            have hstop := stop_any wc b2 b4 p x f2.1 f4.1
            have HST := hide hstop
            have qf := neq_func
            clear hstop f1 f2 f3 f4
            by_cases hpx : p = x
            · have e : decide (p = x) = true := by simp [hpx]
              rw [e] at HST
              have HR3 := hide (r3.sound p r3.pm)
              have HPX := hide hpx
              have HLE6 := hide r3.le
              have HR1 := hide r1
              have HR2 := hide r2
              clear r1 r2 r3 r4 e hpx
              go_wp2_with (go_at_call 22; refine HST.out.mono ?_; rintro e w' ⟨rfl, rfl⟩)
              go_ret
              exact ⟨true, tag6, onw6, stk6, vs6, mk6, rfl, HR1.out, HR2.out, HLE6.out, fun _ => HPX.out ▸ HR3.out, fun h => by cases h⟩
            · have e : decide (p = x) = false := by simp [hpx]
              rw [e] at HST
              have hfr := from_at (HD.out.tt r2) p hp
              have HFR := hide hfr
              have k0 : wc.cell? ⟨grs, 0, none⟩ = some (.pointer (some ⟨gd, 0, none⟩)) := r1.blk.cell 0
              have HPX := hide hpx
              clear r1 r2 r3 r4 e hpx hfr
              rw [← seen_zero (A := A) (hd := hd) (p := p)] at HIN
              have hkb := below_succ (fsOf A) p
              generalize hK : below (fsOf A) (p + 1) - below (fsOf A) p = K at *
              have HKK := hide (And.intro hK hkb)
              have hK2 : K ≤ 2000 := by have := below_le (fsOf A) (p + 1); have h2 : (fsOf A).length = m := by (unfold fsOf; rw [List.length_map]; exact HD.out.lenA)
                                        have := HD.out.hm; omega
              clear hK hkb
              go_wp2_with (first | (go_at_call 22; refine HST.out.mono ?_; rintro e w' ⟨rfl, rfl⟩) | (go_at_call 17; refine HFR.out.mono ?_; rintro e w' ⟨va, o, c, rfl, hcell, q, rfl⟩; replace hcell := hide hcell))
              go_loopw [92] (fun t wi => ∃ j : Nat, j ≤ K ∧ t = .int .i64 j ∧ Inn w tag B grs gd n s y x A p (seen A hd p j) M wi) (fun t _ => K - (intOf t).toNat)
              case atStart => exact ⟨0, Nat.zero_le _, rfl, HIN.out.keep ⟨rfl, rfl, rfl, Nat.le_refl _, fun _ _ _ => rfl⟩⟩
              case round =>
                clear HIN HST HFR k0 qf
                obtain ⟨j, hj, rfl, tag7, onw7, stk7, vs7, mk7, r1, r2, r3, r4, r5⟩ := hrel
                have HR5 := hide r5
                clear r5
                by_cases hjk : j < K
                · obtain ⟨h, hph, hhd⟩ := HD.out.csr.seg_of (p := p) (k := below (fsOf A) p + j) (by omega) (by have := HKK.out.1; omega)
                  have hh := (HD.out.hA p h hph).2
                  have dg := HD.out.tt r2
                  have ch : wr.cell? ⟨gh, o + j, none⟩ = some (.int .i32 h) := by rw [hcell.out j hjk]; exact (dg.vh _ _ hhd).1
                  have k2 : wr.cell? ⟨grs, 2, none⟩ = some (.slice (some ⟨go, 0, none⟩) (2 * n) co) := (r1.blk.cell 2).trans (by rw [← HEO.out]; rfl)
                  have k4 : wr.cell? ⟨grs, 4, none⟩ = some (.int .i32 (s.srch + 1)) := r1.blk.cell 4
                  have o3 : Own .i32 21 wr B (.slice (some ⟨go, 0, none⟩) (2 * n) co) onw7 := by have := r1.own 3; unfold Rs.own at this; rw [← HEO.out]; exact this
                  obtain ⟨u7, hu7, c3⟩ := o3.cell (i := h) (by rw [r3.len]; exact hh)
                  have z3 := o3.frozen h
                  have hseen := seen_succ (A := A) (p := p) hhd
                  by_cases hm7 : u7 = s.srch + 1
                  · have hsi := r3.skip (t := h) (.inl (hm7 ▸ hu7))
                    rw [hseen] at hsi
                    have HI7 := hide (show Inn w tag B grs gd n s y x A p (seen A hd p (j + 1)) M wr from ⟨tag7, onw7, stk7, vs7, mk7, r1, r2, hsi, r4, HR5.out⟩)
                    have hb7 : (u7 != s.srch + 1) = false := by simp [hm7]
                    clear hsi hseen hm7 r1 r2 r3 r4 o3 hu7 dg hph hhd z3
                    go_upto_region 13 with fail
                    go_quiet (fail)
                    go_wp2_with fail
                    go_roundw
                    case rel => exact ⟨j + 1, by omega, rfl, HI7.out.keep ⟨rfl, rfl, rfl, Nat.le_refl _, fun _ _ _ => rfl⟩⟩
                    case measure => simp [intOf]; omega
                  · have HPA := hide (show ∀ k, Calls Ybad.prog 21 #[.int .i32 (h : Int), .pointer (some ⟨b1, 0, none⟩), .pointer (some ⟨b2, 0, none⟩), .pointer (some ⟨b3, 0, none⟩)] (wr.drewN k) fun e w' => e = .returned (.bool (decide (h % 2 = 0))) ∧ ∃ q, w' = (wr.drewN k).drewN q from
                      fun k => pass_any (wr.drewN k) B grs gd gg ga gh gs n m cl gr b1 b2 b3 h x cr al tag7 _ A st hd (r1.drewN k) (dg.tt ((TT.refl _ _).drewN k)) HER.out (HF.out.1.tt r2).1 (HF.out.2.1.tt r2).1 (HF.out.2.2.1.tt r2).1 hh hx)
                    have hb7 : (u7 != s.srch + 1) = true := by simp [hm7]
                    by_cases hev : h % 2 = 0
                    · have e : decide (h % 2 = 0) = true := by simp [hev]
                      rw [e] at HPA
                      obtain ⟨tag8, q1, q2⟩ := putOnw r1 (by exact HEO.out) h (s.srch + 1)
                      have hsi := r3.push hh hev hph
                      rw [hseen] at hsi
                      have hun := un_set hu7 hm7
                      have Q1 := hide q1
                      have Q2 := hide (r2.trans q2)
                      have HSI := hide hsi
                      have HUN := hide hun
                      have HSET := hide (fun hm => (set_some (S := s.srch + 1) (q := x) (by rw [r3.len]; exact hh)).1 hm)
                      have hs7 : stk7.length < 20 := by omega
                      have HR4 := hide r4
                      clear hsi hseen hm7 r1 r2 r3 r4 o3 hu7 dg hph hhd hev e q1 q2 hun
                      go_upto_region 13 with fail
                      go_quiet ((go_at_call 21; exact Calls.quiet_of (HPA.out _)))
                      go_upto_region 14 with fail
                      go_cut [1] (fun v wx => v = .int .i32 (y : Int) ∧ RS wx B grs gd (2 * n) tag8 { s with srch := s.srch + 1, onw := onw7.set h (s.srch + 1), stk := stk7, vs := vs7, marked := mk7 } ∧ TT tag w tag8 wx)
                      case first =>
                        go_region
                        all_goals
                          go_wp2_with fail
                          go_meet
                          case rel => exact ⟨rfl, Q1.out.keep ⟨rfl, rfl, rfl, Nat.le_refl _, fun _ _ _ => rfl⟩, Q2.out.trans (TT.keep ⟨rfl, rfl, rfl, Nat.le_refl _, fun _ _ _ => rfl⟩)⟩
                      case rest =>
                        obtain ⟨rfl, q1, q2⟩ := hcut
                        have k12 : wc.cell? ⟨grs, 12, none⟩ = some (.int .i64 mk7) := q1.blk.cell 12
                        have z12 := q1.blk.frozen 12
                        have HPM := hide (putMarked q1)
                        have Q3 := hide q2
                        clear Q1 Q2 q1 q2 c3 z3 k2 k4 ch HPA hb7
                        go_upto_region 16 with fail
                        generalize hW : World.setCell wc _ _ = W
                        obtain ⟨X, hX⟩ : ∃ X, W = wc.setCell ⟨grs, 12, none⟩ (.int .i64 X) := ⟨_, hW.symm⟩
                        have q5 := HPM.out X
                        rw [← hX] at q5
                        have o5 : Own .i32 21 W B vs7 stk7 := q5.1.own 5
                        obtain ⟨a7, n7, c7, e7⟩ := o5.slice
                        subst e7
                        have k5 : W.cell? ⟨grs, 5, none⟩ = some (.slice a7 n7 c7) := q5.1.blk.cell 5
                        have hBW := q5.1.hB
                        have Q5 := hide q5.1
                        have Q6 := hide (Q3.out.trans q5.2)
                        have O5 := hide o5
                        clear hW hX q5 o5 HPM Q3 k12 z12
                        go_wp2_with (at_builtin; go_must (refine wpList_app (v := .slice a7 n7 c7) _ rfl (.tmp 134) (.tmp 136) .i32 21 24 rfl i0 4 (by omega) Ybad.underlying24 hi hz0 hz1 hz2 rfl (by exact O5.out.alloc _) rfl (by exact Src.one .i32 21 W (h : Int) 1) (by simp only [List.length_cons, List.length_nil]; omega) (by simp only [World.size_alloc]; omega) ?_; intro v' w1 hown' hgrow hfr; obtain ⟨al', nl', cl', hv'⟩ := hown'.slice; subst hv'; have hb1 : Blk w1 grs 57 _ := (Q5.out.blk.alloc _).touch hgrow (fun hm => own_not_grs Q5.out 5 (by decide) hm rfl); have hx1 : w1.cell? ⟨grs, 5, none⟩ = some (.slice a7 n7 c7) := hb1.cell 5; have hf1 := hb1.frozen 5; clear hb1))
                        go_roundw
                        case rel =>
                          obtain ⟨tag9, q8, q9⟩ := putStk (Q5.out.keep ((Tch.refl Non W).alloc (.cells #[.int .i32 (h : Int)] 21))) (.slice a7 n7 c7) (.slice al' nl' cl') (stk7 ++ [(h : Int)]) (fun g hg => hg) hgrow hfr hown'
                          exact ⟨j + 1, by omega, rfl, tag9, onw7.set h (s.srch + 1), stk7 ++ [(h : Int)], _, _, q8, (Q6.out.trans (TT.keep ((Tch.refl Non W).alloc _))).trans q9, HSI.out, by have := HUN.out; have := HR4.out; simp only [List.length_append, List.length_cons, List.length_nil]; omega, fun hm => by
                            rcases HSET.out hm with h1 | h1
                            · left; simp [h1]
                            · rcases HR5.out h1 with h2 | h2
                              · left; simp [h2]
                              · exact .inr h2⟩
                        case measure => simp [intOf]; omega
                    · have e : decide (h % 2 = 0) = false := by simp [hev]
                      rw [e] at HPA
                      have hsi := r3.skip (t := h) (.inr hev)
                      rw [hseen] at hsi
                      have HI7 := hide (show Inn w tag B grs gd n s y x A p (seen A hd p (j + 1)) M wr from ⟨tag7, onw7, stk7, vs7, mk7, r1, r2, hsi, r4, HR5.out⟩)
                      clear hsi hseen hm7 r1 r2 r3 r4 o3 hu7 dg hph hhd z3 hev e
                      go_upto_region 13 with fail
                      go_quiet ((go_at_call 21; exact Calls.quiet_of (HPA.out _)))
                      go_wp2_with fail
                      go_roundw
                      case rel => exact ⟨j + 1, by omega, rfl, HI7.out.keep ⟨rfl, rfl, rfl, Nat.le_refl _, fun _ _ _ => rfl⟩⟩
                      case measure => simp [intOf]; omega
                · obtain rfl : j = K := by omega
                  have hso7 := r3.fin (fun b hb => by
                    obtain ⟨k, h1, h2, h3⟩ := HD.out.csr.of_arc hb
                    have := HKK.out.1
                    exact ⟨k - below (fsOf A) p, by omega, by rw [show below (fsOf A) p + (k - below (fsOf A) p) = k by omega]; exact h3⟩)
                  obtain ⟨a7, n7, c7, e7⟩ := (show Own .i32 21 wr B vs7 stk7 from r1.own 5).slice
                  have k5 : wr.cell? ⟨grs, 5, none⟩ = some (.slice a7 n7 c7) := (r1.blk.cell 5).trans (by rw [← e7]; rfl)
                  have o3 : Own .i32 21 wr B (.slice (some ⟨go, 0, none⟩) (2 * n) co) onw7 := by have := r1.own 3; unfold Rs.own at this; rw [← HEO.out]; exact this
                  have hn7 : stk7.length = n7 := by have : Own .i32 21 wr B vs7 stk7 := r1.own 5; rw [e7] at this; exact this.len
                  have hms := ms_eq (S := s.srch + 1) k5 r3.len (fun i x hx => o3.at hx)
                  have hout : Out w tag B grs gd n s y x A wr := ⟨tag7, onw7, stk7, vs7, mk7, r1, r2, hso7, by omega, fun h => (HR5.out h).resolve_right (fun e => HPX.out e.symm)⟩
                  have hlt : ms wr grs go (2 * n) (s.srch + 1) < M + 1 := by rw [hms]; omega
                  have HO := hide hout
                  have HLT := hide hlt
                  clear hso7 k5 o3 hn7 hms hout hlt r1 r2 r3 r4 e7
                  go_wp2_with fail
                  go_roundw
                  case rel => exact HO.out
                  case measure => rw [HMM.out]; exact HLT.out
end Go.Proofs.YbulkaxcDoor.Fwd
