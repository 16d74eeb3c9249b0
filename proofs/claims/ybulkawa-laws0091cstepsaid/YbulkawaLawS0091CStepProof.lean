import Derived.Test.YbulkawaRows
import Derived.WalkKit
import Derived.ProofKit
import Derived.OpenShut
import Derived.ShutString
import Derived.ChangeOld
import Derived.Below
namespace Go.Proofs.Ybulkawa.lawS0091CStep
open Go.ChangeShapes Go.WideShapes Go.ChangeAt Go.RowKit
open Go.ChangeMaps (open_string shut_string)
set_option linter.unusedVariables false

theorem own : ownKnob Yba.prog.godebug = none := by kernel_rfl

/-! ### The callee, '(Time).addSecond', by contracts: one a way -/
theorem bcell {W w1 : World} (hb : Below W.heap.size W w1) : (∀ b o, b < W.heap.size → w1.cell? ⟨b, o, none⟩ = W.cell? ⟨b, o, none⟩) ∧ (∀ b o, b < W.heap.size → w1.frozen? ⟨b, o, none⟩ = W.frozen? ⟨b, o, none⟩) :=
  ⟨fun b o h => hb.cell (p := ⟨b, o, none⟩) h, fun b o h => hb.frozen (p := ⟨b, o, none⟩) h⟩

set_option maxHeartbeats 400000 in
theorem add_a (ng : Bool) (h m s mi f : Int) (w : World) (s0 : 0 ≤ s) (s1 : s < 59) (m0 : 0 ≤ m) (m1 : m ≤ 59) :
    Calls Yba.prog 8 #[.agg #[.bool ng, .int .i64 h, .int .i64 m, .int .i64 s, .int .i64 mi, .int .i64 f]] w fun e w' => e = .returned (.agg #[.bool ng, .int .i64 h, .int .i64 m, .int .i64 (s + 1), .int .i64 mi, .int .i64 f]) ∧ Below w.heap.size w w' := by
  go_enter Yba.func8, Yba.ntmps8
  go_wp2
  exact bodyPost_ret (v := .agg #[.bool ng, .int .i64 h, .int .i64 m, .int .i64 (s + 1), .int .i64 mi, .int .i64 f]) (by simp [results, Yba.results8, go_sem]) rfl ⟨rfl, ((Below.refl _ _).alloc (Nat.le_refl _) _).alloc (by simp) _⟩

set_option maxHeartbeats 400000 in
theorem add_b (ng : Bool) (h m s mi f : Int) (w : World) (s0 : 59 ≤ s) (s1 : s ≤ 59) (m0 : 0 ≤ m) (m1 : m < 59) :
    Calls Yba.prog 8 #[.agg #[.bool ng, .int .i64 h, .int .i64 m, .int .i64 s, .int .i64 mi, .int .i64 f]] w fun e w' => e = .returned (.agg #[.bool ng, .int .i64 h, .int .i64 (m + 1), .int .i64 0, .int .i64 mi, .int .i64 f]) ∧ Below w.heap.size w w' := by
  go_enter Yba.func8, Yba.ntmps8
  go_wp2
  exact bodyPost_ret (v := .agg #[.bool ng, .int .i64 h, .int .i64 (m + 1), .int .i64 0, .int .i64 mi, .int .i64 f]) (by simp [results, Yba.results8, go_sem]) rfl ⟨rfl, ((Below.refl _ _).alloc (Nat.le_refl _) _).alloc (by simp) _⟩

set_option maxHeartbeats 400000 in
theorem add_c (ng : Bool) (h m s mi f : Int) (w : World) (s0 : 59 ≤ s) (s1 : s ≤ 59) (m0 : 59 ≤ m) (m1 : m ≤ 59) :
    Calls Yba.prog 8 #[.agg #[.bool ng, .int .i64 h, .int .i64 m, .int .i64 s, .int .i64 mi, .int .i64 f]] w fun e w' => e = .returned (.agg #[.bool ng, .int .i64 (wrap64 (h + 1)), .int .i64 0, .int .i64 0, .int .i64 mi, .int .i64 f]) ∧ Below w.heap.size w w' := by
  go_enter Yba.func8, Yba.ntmps8
  go_wp2
  exact bodyPost_ret (v := .agg #[.bool ng, .int .i64 (wrap64 (h + 1)), .int .i64 0, .int .i64 0, .int .i64 mi, .int .i64 f]) (by simp [results, Yba.results8, go_sem]) rfl ⟨rfl, ((Below.refl _ _).alloc (Nat.le_refl _) _).alloc (by simp) _⟩

/-! ### THE WALK: the law returns true, and writes nothing that was there -/
theorem closes {w w' : World} {o o2 : Obj} (hb : Below (w.alloc o).heap.size (w.alloc o) w') (hz : w.heap.size < w'.heap.size) : Below w.heap.size w (w'.alloc o2) :=
  (((Below.refl _ _).alloc (Nat.le_refl _) _).trans (hb.mono (by simp))).alloc (by omega) _

theorem grows {w w' : World} {o : Obj} (hb : Below (w.alloc o).heap.size (w.alloc o) w') : w.heap.size < w'.heap.size := by
  have := hb.size
  simp at this
  omega

set_option maxHeartbeats 400000 in
theorem walk1b (a0 : Bool) (a1 : Int) (a2 : Int) (a3 : Int) (a4 : Int) (a5 : Int) (a6 : Int) (b2 : 0 ≤ a2 ∧ a2 ≤ 255) (b3 : 0 ≤ a3 ∧ a3 ≤ 255) (b4 : 0 ≤ a4 ∧ a4 ≤ 255) (c1 : a4 % 3 = 1) (c2 : a2 % 60 < 59) (w : World) :
    Calls Yba.prog 5 #[.bool a0, .int .i64 a1, .int .u8 a2, .int .u8 a3, .int .u8 a4, .int .i64 a5, .int .i64 a6] w fun e w' => e = .returned (.bool true) ∧ Below w.heap.size w w' := by
  go_enter Yba.func5, Yba.ntmps5
  go_wp2_with (go_at_call 8; refine (add_b _ _ _ _ _ _ _ (by omega) (by omega) (by omega) (by omega)).mono ?_; rintro e w' ⟨rfl, hb⟩; obtain ⟨hc, hf⟩ := bcell hb; have hz : w.heap.size < w'.heap.size := grows hb)
  go_ret
  exact ⟨rfl, closes (by assumption) (by assumption)⟩

set_option maxHeartbeats 400000 in
theorem walk1c (a0 : Bool) (a1 : Int) (a2 : Int) (a3 : Int) (a4 : Int) (a5 : Int) (a6 : Int) (b2 : 0 ≤ a2 ∧ a2 ≤ 255) (b3 : 0 ≤ a3 ∧ a3 ≤ 255) (b4 : 0 ≤ a4 ∧ a4 ≤ 255) (c1 : a4 % 3 = 1) (c2 : ¬ a2 % 60 < 59) (w : World) :
    Calls Yba.prog 5 #[.bool a0, .int .i64 a1, .int .u8 a2, .int .u8 a3, .int .u8 a4, .int .i64 a5, .int .i64 a6] w fun e w' => e = .returned (.bool true) ∧ Below w.heap.size w w' := by
  go_enter Yba.func5, Yba.ntmps5
  go_wp2_with (go_at_call 8; refine (add_c _ _ _ _ _ _ _ (by omega) (by omega) (by omega) (by omega)).mono ?_; rintro e w' ⟨rfl, hb⟩; obtain ⟨hc, hf⟩ := bcell hb; have hz : w.heap.size < w'.heap.size := grows hb)
  go_ret
  exact ⟨rfl, closes (by assumption) (by assumption)⟩

set_option maxHeartbeats 400000 in
theorem walk2c (a0 : Bool) (a1 : Int) (a2 : Int) (a3 : Int) (a4 : Int) (a5 : Int) (a6 : Int) (b2 : 0 ≤ a2 ∧ a2 ≤ 255) (b3 : 0 ≤ a3 ∧ a3 ≤ 255) (b4 : 0 ≤ a4 ∧ a4 ≤ 255) (c1 : a4 % 3 = 2) (w : World) :
    Calls Yba.prog 5 #[.bool a0, .int .i64 a1, .int .u8 a2, .int .u8 a3, .int .u8 a4, .int .i64 a5, .int .i64 a6] w fun e w' => e = .returned (.bool true) ∧ Below w.heap.size w w' := by
  go_enter Yba.func5, Yba.ntmps5
  go_wp2_with (go_at_call 8; refine (add_c _ _ _ _ _ _ _ (by omega) (by omega) (by omega) (by omega)).mono ?_; rintro e w' ⟨rfl, hb⟩; obtain ⟨hc, hf⟩ := bcell hb; have hz : w.heap.size < w'.heap.size := grows hb)
  go_ret
  exact ⟨rfl, closes (by assumption) (by assumption)⟩

set_option maxHeartbeats 400000 in
theorem walk0a (a0 : Bool) (a1 : Int) (a2 : Int) (a3 : Int) (a4 : Int) (a5 : Int) (a6 : Int) (b2 : 0 ≤ a2 ∧ a2 ≤ 255) (b3 : 0 ≤ a3 ∧ a3 ≤ 255) (b4 : 0 ≤ a4 ∧ a4 ≤ 255) (c1 : a4 % 3 = 0) (c2 : a3 % 60 < 59) (w : World) :
    Calls Yba.prog 5 #[.bool a0, .int .i64 a1, .int .u8 a2, .int .u8 a3, .int .u8 a4, .int .i64 a5, .int .i64 a6] w fun e w' => e = .returned (.bool true) ∧ Below w.heap.size w w' := by
  go_enter Yba.func5, Yba.ntmps5
  go_wp2_with (go_at_call 8; refine (add_a _ _ _ _ _ _ _ (by omega) (by omega) (by omega) (by omega)).mono ?_; rintro e w' ⟨rfl, hb⟩; obtain ⟨hc, hf⟩ := bcell hb; have hz : w.heap.size < w'.heap.size := grows hb)
  go_ret
  exact ⟨rfl, closes (by assumption) (by assumption)⟩

set_option maxHeartbeats 400000 in
theorem walk0b (a0 : Bool) (a1 : Int) (a2 : Int) (a3 : Int) (a4 : Int) (a5 : Int) (a6 : Int) (b2 : 0 ≤ a2 ∧ a2 ≤ 255) (b3 : 0 ≤ a3 ∧ a3 ≤ 255) (b4 : 0 ≤ a4 ∧ a4 ≤ 255) (c1 : a4 % 3 = 0) (c2 : ¬ a3 % 60 < 59) (c3 : a2 % 60 < 59) (w : World) :
    Calls Yba.prog 5 #[.bool a0, .int .i64 a1, .int .u8 a2, .int .u8 a3, .int .u8 a4, .int .i64 a5, .int .i64 a6] w fun e w' => e = .returned (.bool true) ∧ Below w.heap.size w w' := by
  go_enter Yba.func5, Yba.ntmps5
  go_wp2_with (go_at_call 8; refine (add_b _ _ _ _ _ _ _ (by omega) (by omega) (by omega) (by omega)).mono ?_; rintro e w' ⟨rfl, hb⟩; obtain ⟨hc, hf⟩ := bcell hb; have hz : w.heap.size < w'.heap.size := grows hb)
  go_ret
  exact ⟨rfl, closes (by assumption) (by assumption)⟩

set_option maxHeartbeats 400000 in
theorem walk0c (a0 : Bool) (a1 : Int) (a2 : Int) (a3 : Int) (a4 : Int) (a5 : Int) (a6 : Int) (b2 : 0 ≤ a2 ∧ a2 ≤ 255) (b3 : 0 ≤ a3 ∧ a3 ≤ 255) (b4 : 0 ≤ a4 ∧ a4 ≤ 255) (c1 : a4 % 3 = 0) (c2 : ¬ a3 % 60 < 59) (c3 : ¬ a2 % 60 < 59) (w : World) :
    Calls Yba.prog 5 #[.bool a0, .int .i64 a1, .int .u8 a2, .int .u8 a3, .int .u8 a4, .int .i64 a5, .int .i64 a6] w fun e w' => e = .returned (.bool true) ∧ Below w.heap.size w w' := by
  go_enter Yba.func5, Yba.ntmps5
  go_wp2_with (go_at_call 8; refine (add_c _ _ _ _ _ _ _ (by omega) (by omega) (by omega) (by omega)).mono ?_; rintro e w' ⟨rfl, hb⟩; obtain ⟨hc, hf⟩ := bcell hb; have hz : w.heap.size < w'.heap.size := grows hb)
  go_ret
  exact ⟨rfl, closes (by assumption) (by assumption)⟩

theorem walk (a0 : Bool) (a1 : Int) (a2 : Int) (a3 : Int) (a4 : Int) (a5 : Int) (a6 : Int) (w2 : (Lit.int .u8 a2).wf = true) (w3 : (Lit.int .u8 a3).wf = true) (w4 : (Lit.int .u8 a4).wf = true) (w : World) :
    Calls Yba.prog 5 #[.bool a0, .int .i64 a1, .int .u8 a2, .int .u8 a3, .int .u8 a4, .int .i64 a5, .int .i64 a6] w fun e w' => e = .returned (.bool true) ∧ Below w.heap.size w w' := by
  have b2 := bounds_u8 w2
  have b3 := bounds_u8 w3
  have b4 := bounds_u8 w4
  have c : a4 % 3 = 0 ∨ a4 % 3 = 1 ∨ a4 % 3 = 2 := by omega
  rcases c with c1 | c1 | c1
  · by_cases c2 : a3 % 60 < 59
    · exact walk0a a0 a1 a2 a3 a4 a5 a6 b2 b3 b4 c1 c2 w
    · by_cases c3 : a2 % 60 < 59
      · exact walk0b a0 a1 a2 a3 a4 a5 a6 b2 b3 b4 c1 c2 c3 w
      · exact walk0c a0 a1 a2 a3 a4 a5 a6 b2 b3 b4 c1 c2 c3 w
  · by_cases c2 : a2 % 60 < 59
    · exact walk1b a0 a1 a2 a3 a4 a5 a6 b2 b3 b4 c1 c2 w
    · exact walk1c a0 a1 a2 a3 a4 a5 a6 b2 b3 b4 c1 c2 w
  · exact walk2c a0 a1 a2 a3 a4 a5 a6 b2 b3 b4 c1 w

/-! ### THE ROW's STEP: WRITTEN OUT: LEAVE IT -/
set_option maxRecDepth 100000 in
theorem lifted (os : Os) (started : os.Started) (H : Type) (enc : TypeId × Value → H) :
    ReturnsInHanded {} Yba.checked os 5 .any (Rows.lawS0091CStepSpec.pre6 enc Yba.prog Yba.f5 Rows.lawS0091CStepRow.domain false) (Rows.lawS0091CStepSpec.post enc Yba.prog Yba.f5 false true false false) := by
  refine returnsInHanded_of_change (C := Yba.checked) own started (by kernel_rfl) Yba.func5
    (ChangeSpec.witness6 (enc := enc) (C := Yba.checked) false ⟨#[], #[.bool false, .int .i64 0, .int .u8 0, .int .u8 0, .int .u8 0, .int .i64 0, .int .i64 0], []⟩ 8 (by kernel_rfl) (by kernel_rfl) (by kernel_rfl) (by kernel_rfl)) ?_
  intro W base args ds gs before hval0 hW hcnd _
  have hval : ∀ (j : Nat) t v, Yba.f5.params[j]? = some t → args[j]? = some v → Value.okWide Yba.prog W .any base t v := hval0
  have hW' := hW
  obtain ⟨p, q, hA0, hV, rfl, hfz, hnd⟩ := hW
  have hA : DataW.TrodAll enc Yba.prog W 0 (fun _ => true) true Yba.f5.params.toList args.toList ds p := hA0
  rw [Yba.params5] at hA hval
  obtain ⟨v0, vs0, d0, ds0, p0, q0, hargs, rfl, rfl, h0, r0⟩ := trodAll_cons hA
  obtain ⟨v1, vs1, d1, ds1, p1, q1, rfl, rfl, rfl, h1, r1⟩ := trodAll_cons r0
  obtain ⟨v2, vs2, d2, ds2, p2, q2, rfl, rfl, rfl, h2, r2⟩ := trodAll_cons r1
  obtain ⟨v3, vs3, d3, ds3, p3, q3, rfl, rfl, rfl, h3, r3⟩ := trodAll_cons r2
  obtain ⟨v4, vs4, d4, ds4, p4, q4, rfl, rfl, rfl, h4, r4⟩ := trodAll_cons r3
  obtain ⟨v5, vs5, d5, ds5, p5, q5, rfl, rfl, rfl, h5, r5⟩ := trodAll_cons r4
  obtain ⟨v6, vs6, d6, ds6, p6, q6, rfl, rfl, rfl, h6, r6⟩ := trodAll_cons r5
  obtain ⟨rfl, rfl, rfl⟩ := trodAll_nil r6
  obtain rfl : args = #[v0, v1, v2, v3, v4, v5, v6] := by cases args; simp_all
  obtain ⟨rfl, rfl⟩ := trodVars_none hV
  obtain ⟨a0, rfl, rfl, rfl⟩ := open_bool Yba.underlying4 (hval 0 4 v0 rfl rfl) h0
  obtain ⟨a1, rfl, rfl, rfl, w1⟩ := open_int Yba.underlying3 (hval 1 3 v1 rfl rfl) h1
  obtain ⟨a2, rfl, rfl, rfl, w2⟩ := open_int Yba.underlying5 (hval 2 5 v2 rfl rfl) h2
  obtain ⟨a3, rfl, rfl, rfl, w3⟩ := open_int Yba.underlying5 (hval 3 5 v3 rfl rfl) h3
  obtain ⟨a4, rfl, rfl, rfl, w4⟩ := open_int Yba.underlying5 (hval 4 5 v4 rfl rfl) h4
  obtain ⟨a5, rfl, rfl, rfl, w5⟩ := open_int Yba.underlying3 (hval 5 3 v5 rfl rfl) h5
  obtain ⟨a6, rfl, rfl, rfl, w6⟩ := open_int Yba.underlying3 (hval 6 3 v6 rfl rfl) h6
  clear hA0 hval0
  refine (walk a0 a1 a2 a3 a4 a5 a6 w2 w3 w4 W).mono fun e W' ⟨he, bel⟩ => ?_
  subst he
  exact ⟨_, rfl, _, _, _, [], _, [], hW', trodAll_mk1 (shut_bool Yba.underlying4 _), (trodAll_cons_mk (shut_bool Yba.underlying4 _) (trodAll_cons_mk (shut_int Yba.underlying3 w1) (trodAll_cons_mk (shut_int Yba.underlying5 w2) (trodAll_cons_mk (shut_int Yba.underlying5 w3) (trodAll_cons_mk (shut_int Yba.underlying5 w4) (trodAll_cons_mk (shut_int Yba.underlying3 w5) (trodAll_cons_mk (shut_int Yba.underlying3 w6) trodAll_mk0))))))), rfl, bel.frame _, fun h => by cases h⟩

theorem over : Rows.lawS0091CStepRow.holds Yba.pinned (OpenSpec.ofChange Rows.lawS0091CStepSpec) :=
  OpenClaim.holds_of_wide 5 Yba.f5 rfl rfl rfl rfl rfl rfl rfl ⟨rfl, rfl, rfl, rfl, rfl⟩ rfl rfl rfl rfl rfl (by kernel_rfl) Yba.func5 (by kernel_rfl)
    (of_decide_eq_true (by kernel_rfl)) (by unfold Func.isWrapper; first | (rw [if_pos (by decide +kernel)]; kernel_rfl) | (rw [if_neg (by decide +kernel)]; exact ⟨rfl, rfl⟩))
    (fun os started H enc _ => lifted os started H enc)

/-- ████ THE STATEMENT ████ -/
theorem proved : Rows.LawS0091CStepSaid :=
  over
#print axioms proved
end Go.Proofs.Ybulkawa.lawS0091CStep

