/-
  LawS0093BCancel: the walk out of the contracts.
-/
import Derived.Test.YbulkaxcDoorLaws
namespace Go.Proofs.YbulkaxcDoor.Laws
open Go Go.RowKit Go.Proofs.YbulkaxcDoor.Mem Go.Proofs.YbulkaxcDoor.Pl Go.Proofs.YbulkaxcDoor.RS Go.Proofs.YbulkaxcDoor.Dg Go.Proofs.YbulkaxcDoor.Cross Go.Proofs.YbulkaxcDoor.Build
set_option linter.unusedVariables false

/-- What 'any' answers, with the stand-in. -/
theorem res_some {A : List (Nat × Nat)} {n r g k : Nat} {b : Bool} {c : Nat} (h : Res A (some (g, k)) n b c) (h1 : r ≤ n) (h2 : ∀ u, u < r → ¬ Fst.roundP A u) (h3 : r < n → Fst.roundP A r) :
    (k < r → b = true ∧ c = k + 1) ∧ (¬ k < r → r < n → b = true ∧ c = r + 1) ∧ (¬ k < r → ¬ r < n → b = false ∧ c = n) := by
  have hcy : ∀ u, canc (some (g, k)) u = true → k ≤ u := fun u hu => by have : decide ((k : Int) < (u : Int) + 1) = true := hu; simp at this; omega
  have hcn : ∀ u, canc (some (g, k)) u = false → u < k := fun u hu => by have : decide ((k : Int) < (u : Int) + 1) = false := hu; simp at this; omega
  rcases h with ⟨rfl, u, hu, hc, hh, hb⟩ | ⟨rfl, hc, hb⟩
  · have huk : u ≤ k := by
      rcases Nat.eq_zero_or_pos u with e | e
      · omega
      · have := hcn _ (hb (u - 1) (by omega)).1; omega
    have hur : u ≤ r := by
      rcases Nat.lt_or_ge r u with e | e
      · exact absurd (h3 (by omega)) (hb r e).2
      · exact e
    have hor : u = k ∨ u = r := by
      rcases hh with hh | hh
      · have := hcy u hh; omega
      · rcases Nat.lt_or_ge u r with e | e
        · exact absurd hh (h2 u e)
        · omega
    refine ⟨fun hk => ⟨rfl, by omega⟩, fun hk hr => ⟨rfl, by omega⟩, fun hk hr => ?_⟩
    omega
  · have hkn : ∀ u, u < n → u < k := fun u hu => hcn u (hb u hu).1
    have hrn : ¬ r < n := fun hlt => (hb r hlt).2 (h3 hlt)
    have : n ≤ k := by
      rcases Nat.eq_zero_or_pos n with e | e
      · omega
      · have := hkn (n - 1) (by omega); omega
    exact ⟨fun hk => by omega, fun hk hr => absurd hr hrn, fun _ _ => ⟨rfl, hc⟩⟩

set_option maxRecDepth 10000 in
set_option maxHeartbeats 2000000 in
theorem law4 (nv fan kv : Int) (M ca : Nat) (aa : Option Addr) (xs : List (Nat × Nat)) (w : World) (h : Arcs w aa M xs) (hg : w.cell? ⟨0, 0, none⟩ = some (.int .i64 8)) (r0 : 0 ≤ nv ∧ nv ≤ 255) (r2 : 0 ≤ fan ∧ fan ≤ 255) (r3 : 0 ≤ kv ∧ kv ≤ 255) (hM : M ≤ maxLen) :
    Calls Ybad.prog 4 #[.int .u8 nv, .slice aa M ca, .int .u8 fan, .int .u8 kv] w fun e w' => e = .returned (.bool true) ∧ Tch (fun x => w.heap.size ≤ x) w w' := by
  unfold maxLen at hM
  by_cases hbig : (1024 : Int) < M
  · clear h hg
    go_enter Ybad.func4, Ybad.ntmps4
    go_wp2_with fail
    go_ret
    exact ⟨rfl, Tch.refl _ _⟩
  · obtain ⟨n, hn⟩ := Int.eq_ofNat_of_zero_le (show 0 ≤ nv % 8 + 1 by omega)
    have hn8 : n ≤ 8 := by omega
    have hn1 : 1 ≤ n := by omega
    have hk0 : 0 ≤ kv % (nv % 8 + 1 + 2) := Int.emod_nonneg _ (by omega)
    have hk9 : kv % (nv % 8 + 1 + 2) < nv % 8 + 1 + 2 := Int.emod_lt_of_pos _ (by omega)
    obtain ⟨k, hk⟩ := Int.eq_ofNat_of_zero_le hk0
    have HB := hide (show Calls Ybad.prog 5 #[.int .i32 (nv % 8 + 1), .slice aa M ca, .int .u8 fan] w fun e w' => BRet w n e w' from by rw [hn]; exact build_any w n M ca fan aa xs h hn8 hn1 (by omega) r2.1 r2.2)
    have HG := hide hg
    have HN := hide hn
    have HK := hide hk
    clear h hg hn hk
    go_enter Ybad.func4, Ybad.ntmps4
    go_upto_region 7 with (first | (go_at_call 5; refine HB.out.mono ?_; rintro e w1 ⟨A, m, grs, gd, gg, ga, gh, gs, gr, go, gb, al, cl, st, hd, af, cf, at', ct, rfl, b1, b2, b3, b4, b5⟩; replace b1 := hide b1; replace b2 := hide b2; replace b3 := hide b3; replace b4 := hide b4; replace b5 := hide b5) | fail)
    clear HB
    have ta := (Tch.refl Non w1).alloc (.cells #[.int .i64 (kv % (nv % 8 + 1 + 2)), .int .i64 0] 32)
    have HW := hide (show ∃ W, W = w1.alloc (.cells #[.int .i64 (kv % (nv % 8 + 1 + 2)), .int .i64 0] 32) from ⟨_, rfl⟩)
    obtain ⟨W, hW⟩ := HW.out
    rw [← hW] at ta
    rw [← hW]
    have l0 : W.cell? ⟨grs, 0, none⟩ = some (.pointer (some ⟨gd, 0, none⟩)) := (b1.out.good.rs.blk.keep ta).cell 0
    have l1 : W.cell? ⟨gd, 0, none⟩ = some (.pointer (some ⟨gg, 0, none⟩)) := ta.cell b1.out.dg.c0.1 (fun h => h)
    have l2 : W.cell? ⟨gg, 22, none⟩ = some .nilIface := ta.cell b1.out.can.1 (fun h => h)
    have l3 : W.frozen? ⟨gg, 22, none⟩ = false := (World.frozen?_of_block (a := ⟨gg, 22, none⟩) (ta.block gg (World.block_lt_of_cell? _ _ b1.out.can.1) (fun h => h))).trans b1.out.fz
    have TA := hide ta
    have HWE := hide hW
    clear ta hW HW
    go_upto_region 8 with fail
    have ts := (Tch.refl (fun x => x = gg) W).setCell (p := ⟨gg, 22, none⟩) (.inl rfl) (.iface 30 (.pointer (some ⟨w1.heap.size, 0, none⟩)))
    obtain ⟨W2, hW2⟩ : ∃ W2, W2 = W.setCell ⟨gg, 22, none⟩ (.iface 30 (.pointer (some ⟨w1.heap.size, 0, none⟩))) := ⟨_, rfl⟩
    rw [← hW2] at ts
    rw [← hW2]
    have e2 : W2 = (w1.alloc (.cells #[.int .i64 (k : Int), .int .i64 0] 32)).setCell ⟨gg, 22, none⟩ (.iface 30 (.pointer (some ⟨w1.heap.size, 0, none⟩))) := by rw [hW2, HWE.out, HK.out]
    have HE2 := hide e2
    have HF := hide (show Calls Ybad.prog 6 #[.int .i32 (nv % 8 + 1), .slice af m cf, .slice at' m ct] W2 fun e w' => ∃ r : Nat, e = .returned (.int .i32 (r : Int)) ∧ r ≤ n ∧ (∀ u, u < r → ¬ Fst.roundP A u) ∧ (r < n → Fst.roundP A r) ∧ Tch Non W2 w' from by rw [HN.out]; exact Fst.first_any n m cf ct af at' A W2 (by omega) (by have := b1.out.dg.hm; omega) (two_of ((b2.out.keep TA.out).touch ts (fun g hg => b4.out g hg)) ((b3.out.keep TA.out).touch ts (fun g hg => b5.out g hg))) b1.out.dg.hA)
    clear l0 l1 l2 l3 ts hW2 e2 HWE TA
    go_upto_region 9 with (first | (go_at_call 6; refine HF.out.mono ?_; rintro e w2 ⟨r, rfl, c1, c2, c3, c4⟩; replace c2 := hide c2; replace c3 := hide c3; replace c4 := hide c4) | fail)
    have HA := hide (show Calls Ybad.prog 7 #[.pointer (some ⟨grs, 0, none⟩)] w2 fun e w' => ∃ b c, e = .returned (.bool b) ∧ w'.cell? ⟨w1.heap.size, 1, none⟩ = some (.int .i64 ((c : Nat) : Int)) ∧ Tch (fun x => w.heap.size ≤ x) w w' ∧ (k < r → b = true ∧ c = k + 1) ∧ (¬ k < r → r < n → b = true ∧ c = r + 1) ∧ (¬ k < r → ¬ r < n → b = false ∧ c = n) from by
      refine (Any.any_any w w2 w.heap.size grs gd gg ga gh gs n m gr go gb (2 * n) (2 * n) (2 * n) al cl A st hd (some (w1.heap.size, k)) _ _ (pre_some b1.out HG.out HE2.out c4.out)).mono ?_
      rintro e w' ⟨b, c, rfl, f0, f1, f2⟩
      exact ⟨b, c, rfl, f0.cell 1, f1, res_some f2 c1 c2.out c3.out⟩)
    clear HF HE2
    by_cases hkr : k < r
    · have HA1 := hide (show Calls Ybad.prog 7 #[.pointer (some ⟨grs, 0, none⟩)] w2 fun e w' => e = .returned (.bool true) ∧ w'.cell? ⟨w1.heap.size, 1, none⟩ = some (.int .i64 (kv % (nv % 8 + 1 + 2) + 1)) ∧ Hid (Tch (fun x => w.heap.size ≤ x) w w') from
        HA.out.mono (fun e w' ⟨b, c, h1, h2, h3, h4, _⟩ => ⟨by rw [h1, (h4 hkr).1], by rw [h2, (h4 hkr).2, HK.out]; simp, h3⟩))
      have x1 : kv % (nv % 8 + 1 + 2) < (r : Int) := by rw [HK.out]; omega
      have x2 : kv % (nv % 8 + 1 + 2) < nv % 8 + 1 := by have := HN.out; omega
      clear HA hkr
      go_wp2_with (first | (go_at_call 7; refine HA1.out.mono ?_; rintro e w3 ⟨rfl, f0, f1⟩) | fail)
      go_ret
      exact ⟨rfl, f1.out⟩
    · by_cases hrn : r < n
      · have HA1 := hide (show Calls Ybad.prog 7 #[.pointer (some ⟨grs, 0, none⟩)] w2 fun e w' => e = .returned (.bool true) ∧ w'.cell? ⟨w1.heap.size, 1, none⟩ = some (.int .i64 ((r : Int) + 1)) ∧ Hid (Tch (fun x => w.heap.size ≤ x) w w') from
          HA.out.mono (fun e w' ⟨b, c, h1, h2, h3, _, h5, _⟩ => ⟨by rw [h1, (h5 hkr hrn).1], by rw [h2, (h5 hkr hrn).2]; simp, h3⟩))
        have x1 : ¬ kv % (nv % 8 + 1 + 2) < (r : Int) := by rw [HK.out]; omega
        have x2 : (r : Int) < nv % 8 + 1 := by have := HN.out; omega
        clear HA hkr hrn
        go_wp2_with (first | (go_at_call 7; refine HA1.out.mono ?_; rintro e w3 ⟨rfl, f0, f1⟩) | fail)
        go_ret
        exact ⟨rfl, f1.out⟩
      · have HA1 := hide (show Calls Ybad.prog 7 #[.pointer (some ⟨grs, 0, none⟩)] w2 fun e w' => e = .returned (.bool false) ∧ w'.cell? ⟨w1.heap.size, 1, none⟩ = some (.int .i64 (nv % 8 + 1)) ∧ Hid (Tch (fun x => w.heap.size ≤ x) w w') from
          HA.out.mono (fun e w' ⟨b, c, h1, h2, h3, _, _, h6⟩ => ⟨by rw [h1, (h6 hkr hrn).1], by rw [h2, (h6 hkr hrn).2, HN.out], h3⟩))
        have x1 : ¬ kv % (nv % 8 + 1 + 2) < (r : Int) := by rw [HK.out]; omega
        have x2 : ¬ (r : Int) < nv % 8 + 1 := by have := HN.out; omega
        clear HA hkr hrn
        go_wp2_with (first | (go_at_call 7; refine HA1.out.mono ?_; rintro e w3 ⟨rfl, f0, f1⟩) | fail)
        go_ret
        exact ⟨rfl, f1.out⟩
end Go.Proofs.YbulkaxcDoor.Laws
