/-
  LawS0091BModel: the walk out of the contracts.
-/
import Derived.Test.YbulkawaDoorMod
namespace Go.Proofs.YbulkawaDoor.Cal
open Go.RowKit
set_option linter.unusedVariables false
set_option linter.unusedSimpArgs false

theorem bcell {W w1 : World} (hb : Below W.heap.size W w1) : (∀ b o, b < W.heap.size → w1.cell? ⟨b, o, none⟩ = W.cell? ⟨b, o, none⟩) ∧ (∀ b o, b < W.heap.size → w1.frozen? ⟨b, o, none⟩ = W.frozen? ⟨b, o, none⟩) :=
  ⟨fun b o h => hb.cell (p := ⟨b, o, none⟩) h, fun b o h => hb.frozen (p := ⟨b, o, none⟩) h⟩

set_option maxHeartbeats 1000000 in
theorem build_any (y mo d h mi s mc f : Int) (w : World) (h0 : 0 ≤ y ∧ y ≤ 65535) (h1 : 0 ≤ mo ∧ mo ≤ 65535) (h2 : 0 ≤ d ∧ d ≤ 65535) (h3 : 0 ≤ h ∧ h ≤ 65535) (h4 : 0 ≤ mi ∧ mi ≤ 65535) (h5 : 0 ≤ s ∧ s ≤ 65535) (h7 : 0 ≤ f ∧ f ≤ 255) :
    Calls Ybad.prog 5 #[.int .u16 y, .int .u16 mo, .int .u16 d, .int .u16 h, .int .u16 mi, .int .u16 s, .int .i64 mc, .int .u8 f] w fun e w' =>
      e = .returned (S (9999 - y % 10000) (12 - mo % 13) (31 - d % 32) (23 - h % 24) (59 - mi % 60) (59 - s % 60) mc (f % 7)) ∧ Below w.heap.size w w' := by
  go_enter Ybad.func5, Ybad.ntmps5
  go_wp2
  refine bodyPost_ret (v := S (9999 - y % 10000) (12 - mo % 13) (31 - d % 32) (23 - h % 24) (59 - mi % 60) (59 - s % 60) mc (f % 7)) ?_ rfl ⟨rfl, ?_⟩
  · simp [results, Ybad.results5, go_sem]
  · exact (Below.refl _ _).alloc (Nat.le_refl _) _

theorem grows {w w' : World} {o : Obj} (hb : Below (w.alloc o).heap.size (w.alloc o) w') : w.heap.size < w'.heap.size := by
  have := hb.size
  simp at this
  omega

theorem chain3 {w w1 w2 w3 : World} {o1 o2 o3 : Obj} (h1 : Below w.heap.size w w1) (h2 : Below (w1.alloc o1).heap.size (w1.alloc o1) w2) (h3 : Below (w2.alloc o2).heap.size (w2.alloc o2) w3) : Below w.heap.size w (w3.alloc o3) := by
  have a1 := h1.size
  have a2 := grows h2
  have a3 := grows h3
  have k1 := h1.alloc a1 o1
  have k2 := (k1.trans (h2.mono (by simp; omega))).alloc (by omega) o2
  exact (k2.trans (h3.mono (by simp; omega))).alloc (by omega) o3

set_option maxHeartbeats 1000000 in
theorem law_of (a0 a1 a2 a3 a4 a5 a6 a7 : Int) (y mo d h mi s mc f y' mo' d' h' mi' s' mc' f' : Int) (ok : Bool) (w : World) (ht : Tab w)
    (hbuild : Hid (∀ w, Calls Ybad.prog 5 #[.int .u16 a0, .int .u16 a1, .int .u16 a2, .int .u16 a3, .int .u16 a4, .int .u16 a5, .int .i64 a6, .int .u8 a7] w fun e w' => e = .returned (S y mo d h mi s mc f) ∧ Below w.heap.size w w'))
    (hadd : Hid (∀ w, Tab w → Calls Ybad.prog 6 #[S y mo d h mi s mc f] w fun e w' => e = R y' mo' d' h' mi' s' mc' f' ok ∧ Below w.heap.size w w'))
    (hmod : Hid (∀ w, Calls Ybad.prog 7 #[S y mo d h mi s mc f] w fun e w' => e = R y' mo' d' h' mi' s' mc' f' ok ∧ Below w.heap.size w w')) :
    Calls Ybad.prog 3 #[.int .u16 a0, .int .u16 a1, .int .u16 a2, .int .u16 a3, .int .u16 a4, .int .u16 a5, .int .i64 a6, .int .u8 a7] w fun e w' => e = .returned (.bool true) ∧ Below w.heap.size w w' := by
  have HT : Hid (Tab w) := ht
  clear ht
  go_enter Ybad.func3, Ybad.ntmps3
  go_wp2_with fail
  refine (hbuild.out _).mono ?_
  rintro e w1 ⟨rfl, hb1⟩
  have hs1 := hb1.size
  go_wp2_with fail
  refine (hadd.out _ (by exact (HT.out.below hb1).alloc _)).mono ?_
  rintro e w2 ⟨rfl, hb2⟩
  obtain ⟨hc2, hf2⟩ := bcell hb2
  have hz2 : w1.heap.size < w2.heap.size := grows hb2
  go_wp2_with fail
  refine (hmod.out _).mono ?_
  rintro e w3 ⟨rfl, hb3⟩
  obtain ⟨hc3, hf3⟩ := bcell hb3
  have hz3 : w2.heap.size < w3.heap.size := grows hb3
  go_wp2_with fail
  go_ret
  exact ⟨rfl, chain3 hb1 hb2 hb3⟩

/-- The ways of the calendar: what both functions answer. -/
theorem law_any (a0 a1 a2 a3 a4 a5 a6 a7 : Int) (w : World) (ht : Tab w) (h0 : 0 ≤ a0 ∧ a0 ≤ 65535) (h1 : 0 ≤ a1 ∧ a1 ≤ 65535) (h2 : 0 ≤ a2 ∧ a2 ≤ 65535) (h3 : 0 ≤ a3 ∧ a3 ≤ 65535) (h4 : 0 ≤ a4 ∧ a4 ≤ 65535) (h5 : 0 ≤ a5 ∧ a5 ≤ 65535) (h7 : 0 ≤ a7 ∧ a7 ≤ 255) :
    Calls Ybad.prog 3 #[.int .u16 a0, .int .u16 a1, .int .u16 a2, .int .u16 a3, .int .u16 a4, .int .u16 a5, .int .i64 a6, .int .u8 a7] w fun e w' => e = .returned (.bool true) ∧ Below w.heap.size w w' := by
  have hb : Hid (∀ w, Calls Ybad.prog 5 #[.int .u16 a0, .int .u16 a1, .int .u16 a2, .int .u16 a3, .int .u16 a4, .int .u16 a5, .int .i64 a6, .int .u8 a7] w fun e w' =>
      e = .returned (S (9999 - a0 % 10000) (12 - a1 % 13) (31 - a2 % 32) (23 - a3 % 24) (59 - a4 % 60) (59 - a5 % 60) a6 (a7 % 7)) ∧ Below w.heap.size w w') :=
    fun w => build_any a0 a1 a2 a3 a4 a5 a6 a7 w h0 h1 h2 h3 h4 h5 h7
  have by0 : 0 ≤ 9999 - a0 % 10000 ∧ 9999 - a0 % 10000 ≤ 9999 := by omega
  have by1 : 0 ≤ 12 - a1 % 13 ∧ 12 - a1 % 13 ≤ 12 := by omega
  have by2 : 0 ≤ 31 - a2 % 32 ∧ 31 - a2 % 32 ≤ 31 := by omega
  have by3 : 0 ≤ 23 - a3 % 24 ∧ 23 - a3 % 24 ≤ 23 := by omega
  have by4 : 0 ≤ 59 - a4 % 60 ∧ 59 - a4 % 60 ≤ 59 := by omega
  have by5 : 0 ≤ 59 - a5 % 60 ∧ 59 - a5 % 60 ≤ 59 := by omega
  generalize 9999 - a0 % 10000 = y at *
  generalize 12 - a1 % 13 = mo at *
  generalize 31 - a2 % 32 = d at *
  generalize 23 - a3 % 24 = h at *
  generalize 59 - a4 % 60 = mi at *
  generalize 59 - a5 % 60 = s at *
  generalize a7 % 7 = f at *
  by_cases cs : s < 59
  · have e1 : (h * 3600 + mi * 60 + s + 1) / 3600 = h := by omega
    have e2 : ((h * 3600 + mi * 60 + s + 1) / 60) % 60 = mi := by omega
    have e3 : (h * 3600 + mi * 60 + s + 1) % 60 = s + 1 := by omega
    refine law_of a0 a1 a2 a3 a4 a5 a6 a7 y mo d h mi s a6 f y mo d h mi (s + 1) a6 f true w ht hb (fun w _ => add_A y mo d h mi s a6 f w (by omega) cs) (fun w => ?_)
    have := mod_A y mo d h mi s a6 f w (by omega) (by omega) (by omega) (by omega) (by omega) (by omega) (by omega)
    rwa [e1, e2, e3] at this
  obtain rfl : s = 59 := by omega
  by_cases cm : mi < 59
  · have e1 : (h * 3600 + mi * 60 + 59 + 1) / 3600 = h := by omega
    have e2 : ((h * 3600 + mi * 60 + 59 + 1) / 60) % 60 = mi + 1 := by omega
    have e3 : (h * 3600 + mi * 60 + 59 + 1) % 60 = 0 := by omega
    refine law_of a0 a1 a2 a3 a4 a5 a6 a7 y mo d h mi 59 a6 f y mo d h (mi + 1) 0 a6 f true w ht hb (fun w _ => add_B y mo d h mi a6 f w (by omega) cm) (fun w => ?_)
    have := mod_A y mo d h mi 59 a6 f w (by omega) (by omega) (by omega) (by omega) (by omega) (by omega) (by omega)
    rwa [e1, e2, e3] at this
  obtain rfl : mi = 59 := by omega
  by_cases ch : h < 23
  · have e1 : (h * 3600 + 59 * 60 + 59 + 1) / 3600 = h + 1 := by omega
    have e2 : ((h * 3600 + 59 * 60 + 59 + 1) / 60) % 60 = 0 := by omega
    have e3 : (h * 3600 + 59 * 60 + 59 + 1) % 60 = 0 := by omega
    refine law_of a0 a1 a2 a3 a4 a5 a6 a7 y mo d h 59 59 a6 f y mo d (h + 1) 0 0 a6 f true w ht hb (fun w _ => add_C y mo d h a6 f w (by omega) ch) (fun w => ?_)
    have := mod_A y mo d h 59 59 a6 f w (by omega) (by omega) (by omega) (by omega) (by omega) (by omega) (by omega)
    rwa [e1, e2, e3] at this
  obtain rfl : h = 23 := by omega
  by_cases c0 : mo = 0
  · subst c0
    exact law_of a0 a1 a2 a3 a4 a5 a6 a7 y 0 d 23 59 59 a6 f 0 0 0 0 0 0 0 0 false w ht hb (fun w _ => add_D1 y d a6 f w) (fun w => mod_D1 y d a6 f w)
  by_cases cd : d = 0
  · subst cd
    exact law_of a0 a1 a2 a3 a4 a5 a6 a7 y mo 0 23 59 59 a6 f 0 0 0 0 0 0 0 0 false w ht hb (fun w _ => add_D2 y mo a6 f w (by omega)) (fun w => mod_D2 y mo a6 f w (by omega))
  by_cases cg : dimN mo y < d
  · exact law_of a0 a1 a2 a3 a4 a5 a6 a7 y mo d 23 59 59 a6 f 0 0 0 0 0 0 0 0 false w ht hb (fun w t => add_D3 y mo d a6 f w t (by omega) (by omega) (by omega) (by omega) cg) (fun w => mod_D3 y mo d a6 f w (by omega) (by omega) (by omega) (by omega) cg)
  by_cases cl : d < dimN mo y
  · exact law_of a0 a1 a2 a3 a4 a5 a6 a7 y mo d 23 59 59 a6 f y mo (d + 1) 0 0 0 a6 f true w ht hb (fun w t => add_E y mo d a6 f w t (by omega) (by omega) (by omega) (by omega) cl) (fun w => mod_E y mo d a6 f w (by omega) (by omega) (by omega) (by omega) cl)
  by_cases c12 : mo < 12
  · exact law_of a0 a1 a2 a3 a4 a5 a6 a7 y mo d 23 59 59 a6 f y (mo + 1) 1 0 0 0 a6 f true w ht hb (fun w t => add_F y mo d a6 f w t (by omega) (by omega) (by omega) (by omega) (by omega) (by omega) c12) (fun w => mod_F y mo d a6 f w (by omega) (by omega) (by omega) (by omega) (by omega) (by omega) c12)
  by_cases c99 : y < 9999
  · have g := fun w => mod_G y mo d a6 f w (by omega) (by omega) (by omega) (by omega) (by omega) (by omega) (by omega) c99
    obtain rfl : mo = 12 := by omega
    have e31 : dimN 12 y = 31 := dim_31 12 y (by omega) (by omega)
    obtain rfl : d = 31 := by omega
    exact law_of a0 a1 a2 a3 a4 a5 a6 a7 y 12 31 23 59 59 a6 f (y + 1) 1 1 0 0 0 a6 f true w ht hb (fun w t => add_G y a6 f w t (by omega) c99) g
  · exact law_of a0 a1 a2 a3 a4 a5 a6 a7 y mo d 23 59 59 a6 f 0 0 0 0 0 0 0 0 false w ht hb (fun w t => add_H y mo d a6 f w t (by omega) (by omega) (by omega) (by omega) (by omega) (by omega) (by omega) (by omega) (by omega)) (fun w => mod_H y mo d a6 f w (by omega) (by omega) (by omega) (by omega) (by omega) (by omega) (by omega) (by omega) (by omega))
end Go.Proofs.YbulkawaDoor.Cal
