/-
  heldArcs (16), by contract: where all is marked open, the arcs stay.
-/
import Derived.Test.YbulkaxcHh
namespace Go.Proofs.Ybulkaxc.Ha
open Go Go.RowKit Go.Proofs.Ybulkaxc.M2 Go.Proofs.Ybulkaxc.Cm Go.Proofs.Ybulkaxc.Kn Go.Proofs.Ybulkaxc.So Go.Proofs.Ybulkaxc.Hh
set_option linter.unusedVariables false

set_option maxRecDepth 10000 in
set_option maxHeartbeats 4000000 in
theorem heldArcs_any (w : World) (gg gp gop nn grp gps gpo : Nat) (ak : Option Addr) (nk ck : Nat) (ks : List (List Nat)) (pt : List Bool) (aa : Option Addr) (na ca : Nat) (hg : Gm w gg ak nk ck nn ks) (hp : Pb w gp nn pt) (hop : Pb w gop nn (List.replicate nn true))
    (h0 : w.cell? ⟨grp, 0, none⟩ = some (.pointer (some ⟨gps, 0, none⟩))) (h1 : w.cell? ⟨gps, 0, none⟩ = some (.pointer (some ⟨gg, 0, none⟩))) (h2 : w.cell? ⟨grp, 2, none⟩ = some (.slice (some ⟨gpo, 0, none⟩) nn nn)) (h3 : ∀ x, x < nn → w.cell? ⟨gpo, x, none⟩ = some (.int .i64 0))
    (hnk : nk ≤ 64) (hnn : nn ≤ 100) :
    Calls Yba.prog 16 #[.pointer (some ⟨grp, 0, none⟩), .slice aa na ca, .slice (some ⟨gp, 0, none⟩) nn nn, .slice (some ⟨gop, 0, none⟩) nn nn] w fun e w' => e = .returned (.slice aa na ca) ∧ Tch Non w w' := by
  have hB := Blk.new w #[.pointer (some ⟨grp, 0, none⟩)] 82
  have tb := (Tch.refl Non w).alloc (.cells #[.pointer (some ⟨grp, 0, none⟩)] 82)
  have HG := hide (hg.keep tb)
  have HP := hide (hp.keep tb)
  have HOP := hide (hop.keep tb)
  have HL := hide (show Lw (w.alloc (.cells #[.pointer (some ⟨grp, 0, none⟩)] 82)) w.heap.size grp gpo nn from ⟨hB.cell 0, tb.cell h2 (fun h => h), fun x hx => tb.cell (h3 x hx) (fun h => h)⟩)
  have T0 := hide tb
  have c0 := tb.cell h0 (fun h => h)
  have c1 := tb.cell h1 (fun h => h)
  have c6 := (hg.keep tb).kc
  have cb : (w.alloc (.cells #[.pointer (some ⟨grp, 0, none⟩)] 82)).cell? ⟨w.heap.size, 0, none⟩ = some (.pointer (some ⟨grp, 0, none⟩)) := hB.cell 0
  clear hg hp hop h0 h1 h2 h3 hB tb
  go_enter Yba.func16, Yba.ntmps16
  go_upto_region 1 with fail
  generalize w.alloc (.cells #[.pointer (some ⟨grp, 0, none⟩)] 82) = w1 at *
  generalize w.heap.size = b4 at *
  have HT1 := hide (Tch.refl Non w1)
  go_wp2_with fail
  go_loopw [35, 1] (fun t v wq => ∃ k : Nat, k ≤ nk ∧ t = .int .i64 (k : Int) ∧ v = .slice aa na ca ∧ Tch Non w1 wq) (fun t _ _ => nk - (intOf t).toNat)
  case atStart => exact ⟨0, Nat.zero_le _, rfl, rfl, HT1.out⟩
  case round =>
    clear HT1 c0 c1 c6 cb
    obtain ⟨k, hk, rfl, rfl, ht⟩ := hrel
    have HT := hide ht
    clear ht
    by_cases hlt : k < nk
    · have e1 : (k : Int) < (nk : Int) := by omega
      obtain ⟨ws, hws⟩ : ∃ ws, ks[k]? = some ws := ⟨ks[k]'(by rw [HG.out.len]; exact hlt), List.getElem?_eq_getElem _⟩
      have hwl := (HG.out.rng ws (List.mem_of_getElem? hws)).1
      have c6 := (HG.out.keep HT.out).kc
      obtain ⟨gk, aw, cw, rfl, _, _⟩ := HG.out.key k ws hws
      have HC := hide (heldHeads_any wr gg gp gop nn b4 grp gpo k _ nk ck ks ws pt (HG.out.keep HT.out) (HP.out.keep HT.out) (HOP.out.keep HT.out) (HL.out.keep HT.out) hws hnk hnn)
      generalize ws.length = n at *
      go_upto_region 8 with (first | (go_at_call 22; refine HC.out.mono ?_; rintro e w2 ⟨gH, rfl, hH, t2⟩; have HH := hide hH; have HT2 := hide (HT.out.also t2); clear hH t2) | fail)
      clear HC HT c6
      have HT3 := hide (Tch.refl Non w2)
      go_wp2_with fail
      go_loopw [53, 1] (fun t v wq => ∃ j : Nat, j ≤ n ∧ t = .int .i64 (j : Int) ∧ v = .slice aa na ca ∧ wq = w2) (fun t _ _ => n - (intOf t).toNat)
      case atStart => exact ⟨0, Nat.zero_le _, rfl, rfl, rfl⟩
      case round =>
        obtain ⟨j, hj, rfl, rfl, hwr⟩ := hrel
        subst hwr
        generalize wr = w2 at *
        by_cases hjl : j < n
        · have cH := HH.out j hjl
          have e2 : (j : Int) < (n : Int) := by omega
          go_wp2_with fail
          go_loopw [60, 1] (fun t v wq => t = .int .i64 0 ∧ v = .slice aa na ca ∧ wq = w2) (fun _ _ _ => 0)
          case atStart => exact ⟨rfl, rfl, rfl⟩
          case round =>
            obtain ⟨rfl, rfl, hwr⟩ := hrel
            subst hwr
            go_wp2_with fail
            go_roundw
            case rel => exact ⟨j + 1, by omega, by go_num, rfl, by first | rfl | trivial⟩
            case measure => simp [intOf]; omega
        · obtain rfl : j = n := by omega
          have ckn := (HG.out.keep HT2.out).kn
          have HHn := hide (has_none w2 2 (by omega))
          go_wp2_with (first | (go_at_call 20; refine HHn.out.mono ?_; rintro e w' ⟨rfl, rfl⟩) | fail)
          go_roundw
          case rel => exact ⟨k + 1, by omega, by go_num, rfl, HT2.out⟩
          case measure => simp [intOf]; omega
    · obtain rfl : k = nk := by omega
      go_wp2_with fail
      go_ret
      exact ⟨rfl, T0.out.also HT.out⟩
end Go.Proofs.Ybulkaxc.Ha
