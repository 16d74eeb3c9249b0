import Derived.Test.YbulkawaRows
import Derived.WalkKit
import Derived.ProofKit
import Derived.OpenShut
import Derived.ShutString
import Derived.Test.YbulkawaDigits
namespace Go.Proofs.Ybulkawa.lawS0091AModel
open Go.ChangeShapes Go.WideShapes Go.ChangeAt Go.RowKit
open Go.ChangeMaps (open_string shut_string)
open Go.Proofs.Ybulkawa.Digits
set_option linter.unusedVariables false

theorem own : ownKnob Yba.prog.godebug = none := by kernel_rfl

/-! ### THE WALK: the law returns true -/
set_option maxHeartbeats 400000 in
theorem walk (a0 : ByteArray) (w0 : a0.size ≤ maxLen) (w : World) :
    Calls Yba.prog 3 #[.string a0] w fun e w' => e = .returned (.bool true) ∧ Grown w w' := by
  have w0' := w0
  unfold maxLen at w0'
  by_cases hbig : (4096 : Int) < (a0.size : Int)
  · go_enter Yba.func3, Yba.ntmps3
    go_wp2
    go_ret
    exact ⟨rfl, Grown.refl _⟩
  · go_enter Yba.func3, Yba.ntmps3
    go_wp2_with (go_at_call 7; refine (count_any _ _ w0).mono ?_; rintro e w' ⟨rfl, rfl⟩)
    go_loop [4, 5] (fun t i => ∃ k : Nat, k ≤ a0.size ∧ i = .int .i64 k ∧ t = .int .i64 a0.size ∧ Hid (∀ c ∈ a0.data.toList.take k, isD c = true)) (fun _ i => a0.size - (intOf i).toNat)
    case atStart => exact ⟨0, Nat.zero_le _, rfl, rfl, by intro c hc; simp at hc⟩
    case round =>
      obtain ⟨k, hk, rfl, rfl, hall⟩ := hrel
      by_cases hlt : k < a0.size
      · by_cases h1 : (a0[k].toNat : Int) < 48
        · have e := stop_at hlt hall.out (isD_lo h1)
          have h : (((cd a0.data.toList : Nat) : Int) == (k : Int)) = true := by rw [e]; simp
          clear e
          go_wp2
          go_ret
          exact ⟨rfl, Grown.refl _⟩
        · by_cases h2 : 57 < (a0[k].toNat : Int)
          · have e := stop_at hlt hall.out (isD_hi h2)
            have h : (((cd a0.data.toList : Nat) : Int) == (k : Int)) = true := by rw [e]; simp
            clear e
            go_wp2
            go_ret
            exact ⟨rfl, Grown.refl _⟩
          · go_wp2
            go_round
            case rel => exact ⟨k + 1, by omega, by go_num, rfl, take_step hlt hall.out (isD_yes (by omega) (by omega))⟩
            case measure => simp [intOf]; omega
      · have e := stop_end hk hlt hall.out
        have h : (((cd a0.data.toList : Nat) : Int) == (a0.size : Int)) = true := by rw [e]; simp; omega
        clear e
        go_wp2
        go_ret
        exact ⟨rfl, Grown.refl _⟩

/-! ### THE ROW's STEP: WRITTEN OUT: LEAVE IT -/
set_option maxRecDepth 100000 in
theorem lifted (os : Os) (started : os.Started) (H : Type) (enc : TypeId × Value → H) :
    ReturnsInHanded {} Yba.checked os 3 .any (Rows.lawS0091AModelSpec.pre6 enc Yba.prog Yba.f3 Rows.lawS0091AModelRow.domain false) (Rows.lawS0091AModelSpec.post enc Yba.prog Yba.f3 false true false false) := by
  refine returnsInHanded_of_change (C := Yba.checked) own started (by kernel_rfl) Yba.func3
    (ChangeSpec.witness6 (enc := enc) (C := Yba.checked) false ⟨#[], #[.string ByteArray.empty], []⟩ 8 (by kernel_rfl) (by kernel_rfl) (by kernel_rfl) (by kernel_rfl)) ?_
  intro W base args ds gs before hval0 hW hcnd _
  have hval : ∀ (j : Nat) t v, Yba.f3.params[j]? = some t → args[j]? = some v → Value.okWide Yba.prog W .any base t v := hval0
  have hW' := hW
  obtain ⟨p, q, hA0, hV, rfl, hfz, hnd⟩ := hW
  have hA : DataW.TrodAll enc Yba.prog W 0 (fun _ => true) true Yba.f3.params.toList args.toList ds p := hA0
  rw [Yba.params3] at hA hval
  obtain ⟨v0, vs0, d0, ds0, p0, q0, hargs, rfl, rfl, h0, r0⟩ := trodAll_cons hA
  obtain ⟨rfl, rfl, rfl⟩ := trodAll_nil r0
  obtain rfl : args = #[v0] := by cases args; simp_all
  obtain ⟨rfl, rfl⟩ := trodVars_none hV
  obtain ⟨a0, rfl, rfl, rfl, w0⟩ := open_string Yba.underlying9 (hval 0 9 v0 rfl rfl) h0
  clear hA0 hval0
  simp only [List.append_nil] at hW'
  refine (walk a0 w0 W).mono fun e W' ⟨he, hg⟩ => ?_
  subst he
  exact ⟨_, rfl, post_of_same (pa := []) (pv := []) hW' (fun _ _ _ => (trodAll_cons_mk (shut_bool Yba.underlying4 _) trodAll_mk0)) (fun sp _ => (trodAll_cons_mk (shut_string Yba.underlying9 w0) trodAll_mk0)) (fun _ _ => rfl) rfl
    (hg.frame _) hg.2.1 (ok_one (by kernel_rfl) rfl (okWide_bool_mk Yba.underlying4 _))⟩

theorem over : Rows.lawS0091AModelRow.holds Yba.pinned (OpenSpec.ofChange Rows.lawS0091AModelSpec) :=
  OpenClaim.holds_of_wide 3 Yba.f3 rfl rfl rfl rfl rfl rfl rfl ⟨rfl, rfl, rfl, rfl, rfl⟩ rfl rfl rfl rfl rfl (by kernel_rfl) Yba.func3 (by kernel_rfl)
    (of_decide_eq_true (by kernel_rfl)) (by unfold Func.isWrapper; first | (rw [if_pos (by decide +kernel)]; kernel_rfl) | (rw [if_neg (by decide +kernel)]; exact ⟨rfl, rfl⟩))
    (fun os started H enc _ => lifted os started H enc)

/-- ████ THE STATEMENT ████ -/
theorem proved : Rows.LawS0091AModelSaid :=
  over
#print axioms proved
end Go.Proofs.Ybulkawa.lawS0091AModel

