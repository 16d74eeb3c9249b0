/-
  LawS0093BMatches, LawS0093BCancel: the walks out of the contracts.
-/
import Derived.Test.YbulkaxcDoorBuild
namespace Go.Proofs.YbulkaxcDoor.Laws
open Go Go.RowKit Go.Proofs.YbulkaxcDoor.Mem Go.Proofs.YbulkaxcDoor.Pl Go.Proofs.YbulkaxcDoor.RS Go.Proofs.YbulkaxcDoor.Dg Go.Proofs.YbulkaxcDoor.Cross Go.Proofs.YbulkaxcDoor.Build
set_option linter.unusedVariables false

section
variable {w W : World} {n m grs gd gg ga gh gs gr go gb : Nat} {al : Option Addr} {cl : Nat} {A : List (Nat × Nat)} {st hd : List Int}
theorem old_tag (h : Built w W n m grs gd gg ga gh gs gr go gb al cl A st hd) {x : Nat} (hx : x < w.heap.size) : tag0 grs gr go gb x = 0 := by
  obtain ⟨h1, h2, h3, h4, h5, h6, h7, h8, h9⟩ := h.ge
  exact tag0_no (by omega) (by omega) (by omega) (by omega)
theorem tag_ge (h : Built w W n m grs gd gg ga gh gs gr go gb al cl A st hd) (x : Nat) (hx : tag0 grs gr go gb x ≠ 0) : w.heap.size ≤ x := by
  obtain ⟨h1, h2, h3, h4, h5, h6, h7, h8, h9⟩ := h.ge
  rcases tag0_yes hx with e | e | e | e <;> omega
/-- Ready for 'any', with no flag. -/
theorem pre_none {W2 : World} (h : Built w W n m grs gd gg ga gh gs gr go gb al cl A st hd) (hg : w.cell? ⟨0, 0, none⟩ = some (.int .i64 8)) (t : Tch Non W W2) :
    Any.Pre w w.heap.size grs gd gg ga gh gs n m gr go gb (2 * n) (2 * n) (2 * n) al cl A st hd none (tag0 grs gr go gb) (s0 n gr go gb) W2 := by
  have tt := TT.keep (tag := tag0 grs gr go gb) t
  refine ⟨h.good.keep t, h.dg.tt tt, ⟨(h.fr.also t).cell hg (fun h => h), old_tag h (World.block_lt_of_cell? _ _ hg)⟩, fun k hk => (h.arcs k hk).tt tt, h.can.tt tt, (fun g k e => by cases e), tag_ge h, (h.fr.also t).non, Int.le_refl _⟩
/-- Ready for 'any', with the stand-in. -/
theorem pre_some {k : Nat} {W2 W3 : World} (h : Built w W n m grs gd gg ga gh gs gr go gb al cl A st hd) (hg : w.cell? ⟨0, 0, none⟩ = some (.int .i64 8))
    (e2 : W2 = (W.alloc (.cells #[.int .i64 (k : Int), .int .i64 0] 32)).setCell ⟨gg, 22, none⟩ (.iface 30 (.pointer (some ⟨W.heap.size, 0, none⟩)))) (t : Tch Non W2 W3) :
    Any.Pre w w.heap.size grs gd gg ga gh gs n m gr go gb (2 * n) (2 * n) (2 * n) al cl A st hd (some (W.heap.size, k)) (tag0 grs gr go gb) (s0 n gr go gb) W3 := by
  have ta : Tch Non W (W.alloc (.cells #[.int .i64 (k : Int), .int .i64 0] 32)) := (Tch.refl Non W).alloc _
  have ts : Tch (fun x => x = gg) (W.alloc (.cells #[.int .i64 (k : Int), .int .i64 0] 32)) W2 := by rw [e2]; exact (Tch.refl (fun x => x = gg) _).setCell (p := ⟨gg, 22, none⟩) (.inl rfl) _
  have tt := TT.keep (tag := tag0 grs gr go gb) ta
  have t3 := TT.keep (tag := tag0 grs gr go gb) t
  obtain ⟨n1, n2, n3, n4⟩ := h.ne
  obtain ⟨g1, g2, g3, g4, g5, g6, g7, g8, g9⟩ := h.ge
  have d := h.dg.tt tt
  have hgW : gg < W.heap.size := World.block_lt_of_cell? _ _ h.can.1
  have hdW : gd < W.heap.size := World.block_lt_of_cell? _ _ h.dg.c0.1
  have hrW := h.good.rs.blk.lt
  have hsz := h.fr.size
  have hw0 := World.block_lt_of_cell? _ _ hg
  have hnew : Blk W2 W.heap.size 32 [.int .i64 (k : Int), .int .i64 ((0 : Nat) : Int)] := (Blk.new W #[.int .i64 (k : Int), .int .i64 0] 32).touch ts (by omega)
  have hz : (W.alloc (.cells #[.int .i64 (k : Int), .int .i64 0] 32)).cell? ⟨gg, 22, none⟩ = some .nilIface := ta.cell h.can.1 (fun h => h)
  have hsetc : W2.cell? ⟨gg, 22, none⟩ = some (.iface 30 (.pointer (some ⟨W.heap.size, 0, none⟩))) := by rw [e2]; exact World.cell?_setCell_same _ _ _ hz
  have htW : tag0 grs gr go gb W.heap.size = 0 := by
    have b1 := (h.good.rs.own 2 : Own .i32 21 W w.heap.size (.slice (some ⟨gr, 0, none⟩) (2 * n) (2 * n)) _).lt (g := gr) rfl
    have b2 := (h.good.rs.own 3 : Own .i32 21 W w.heap.size (.slice (some ⟨go, 0, none⟩) (2 * n) (2 * n)) _).lt (g := go) rfl
    have b3 := (h.good.rs.own 4 : Own .i32 21 W w.heap.size (.slice (some ⟨gb, 0, none⟩) (2 * n) (2 * n)) _).lt (g := gb) rfl
    exact tag0_no (by omega) (by omega) (by omega) (by omega)
  have ls : ∀ (i : Nat) (x : Int), st[i]? = some x → gs < W.heap.size := fun i x hx => World.block_lt_of_cell? _ _ (h.dg.vs i x hx).1
  have hgs : gs < W.heap.size := ls 0 _ (h.dg.csr.starts 0 (Nat.zero_le _))
  have d2 : DG W2 (tag0 grs gr go gb) gd gg ga gh gs n m al cl A st hd := ⟨d.c0.off ts n1, d.c1.off ts n1, d.c2.off ts n1, d.c3.off ts n1, d.c4.off ts n1, d.c5.off ts n1, d.c6.off ts n1, fun i x hx => (d.vs i x hx).off ts n4, fun i x hx => (d.vh i x hx).off ts n3, d.csr, d.lenA, d.hA, d.hn, d.hn1, d.hm⟩
  have a2 : ∀ k, k < m → ArcAt W2 (tag0 grs gr go gb) ga k := fun k hk => by
    obtain ⟨f, u, a0, a1, a2, a3, a4, a5⟩ := (h.arcs k hk).tt tt
    exact ⟨f, u, a0.off ts n2, a1.off ts n2, a2.off ts n2, a3.off ts n2, a4.off ts n2, a5.off ts n2⟩
  have r2 : RS W2 w.heap.size grs gd (2 * n) (tag0 grs gr go gb) (s0 n gr go gb) := (h.good.rs.keep ta).other ts h.can.2
  have fr2 : Tch (fun x => w.heap.size ≤ x) w W2 := (h.fr.also ta).non.trans ts (fun x hx => .inl (by rw [hx]; exact g1))
  refine ⟨⟨r2.keep t, h.good.er, h.good.eo, h.good.eb, h.good.ix, h.good.lo, h.good.lb, h.good.s0⟩, d2.tt t3, ?_, fun k hk => (a2 k hk).tt t3, ⟨(show Fix W2 _ _ _ from ⟨hsetc, h.can.2⟩).tt t3, hnew.keep t, htW⟩, fun g k' e => ?_, tag_ge h, fr2.also t, Int.le_refl _⟩
  · exact ⟨t.cell (ts.cell (ta.cell (h.fr.cell hg (fun h => h)) (fun h => h)) (by show ¬ 0 = gg; have : (⟨0, 0, none⟩ : Addr).block = 0 := rfl; omega)) (fun h => h), old_tag h hw0⟩
  · cases e
    obtain ⟨b1, b2⟩ := h.lt
    exact ⟨by omega, by omega, by omega, by omega, by omega, by have hta := ta.size; have := ts.size; have := t.size; have := hnew.lt; omega, by omega, hsz⟩
end

theorem two_of {W : World} {B m cf ct : Nat} {af at' : Option Addr} {A : List (Nat × Nat)} (h1 : Own .i32 21 W B (.slice af m cf) (fsI A)) (h2 : Own .i32 21 W B (.slice at' m ct) (tsI A)) : Fst.Two W af at' m cf ct A := ⟨h1.src, h2.src⟩

/-- What 'any' answers, with no flag. -/
theorem res_none {A : List (Nat × Nat)} {n r : Nat} {b : Bool} {c : Nat} (h : Res A none n b c) (h1 : r ≤ n) (h2 : ∀ u, u < r → ¬ Fst.roundP A u) (h3 : r < n → Fst.roundP A r) : b = decide (r < n) := by
  rcases h with ⟨rfl, u, hu, _, hh, _⟩ | ⟨rfl, _, hh⟩
  · rcases hh with hh | hh
    · cases hh
    · have : ¬ u < r := fun hlt => h2 u hlt hh
      simp; omega
  · have : ¬ r < n := fun hlt => (hh r hlt).2 (h3 hlt)
    simp; omega

set_option maxRecDepth 10000 in
set_option maxHeartbeats 1000000 in
theorem law3 (nv fan : Int) (M ca : Nat) (aa : Option Addr) (xs : List (Nat × Nat)) (w : World) (h : Arcs w aa M xs) (hg : w.cell? ⟨0, 0, none⟩ = some (.int .i64 8)) (r0 : 0 ≤ nv ∧ nv ≤ 255) (r2 : 0 ≤ fan ∧ fan ≤ 255) (hM : M ≤ maxLen) :
    Calls Ybad.prog 3 #[.int .u8 nv, .slice aa M ca, .int .u8 fan] w fun e w' => e = .returned (.bool true) ∧ Tch (fun x => w.heap.size ≤ x) w w' := by
  unfold maxLen at hM
  by_cases hbig : (1024 : Int) < M
  · clear h hg
    go_enter Ybad.func3, Ybad.ntmps3
    go_wp2_with fail
    go_ret
    exact ⟨rfl, Tch.refl _ _⟩
  · obtain ⟨n, hn⟩ := Int.eq_ofNat_of_zero_le (show 0 ≤ nv % 8 + 1 by omega)
    have hn8 : n ≤ 8 := by omega
    have hn1 : 1 ≤ n := by omega
    have HB := hide (show Calls Ybad.prog 5 #[.int .i32 (nv % 8 + 1), .slice aa M ca, .int .u8 fan] w fun e w' => BRet w n e w' from by rw [hn]; exact build_any w n M ca fan aa xs h hn8 hn1 (by omega) r2.1 r2.2)
    have HG := hide hg
    have HN := hide hn
    clear h hg hn
    go_enter Ybad.func3, Ybad.ntmps3
    go_upto_region 5 with (first | (go_at_call 5; refine HB.out.mono ?_; rintro e w1 ⟨A, m, grs, gd, gg, ga, gh, gs, gr, go, gb, al, cl, st, hd, af, cf, at', ct, rfl, b1, b2, b3, b4, b5⟩; replace b1 := hide b1; replace b2 := hide b2; replace b3 := hide b3; clear b4 b5) | fail)
    have HF := hide (show Calls Ybad.prog 6 #[.int .i32 (nv % 8 + 1), .slice af m cf, .slice at' m ct] w1 fun e w' => ∃ r : Nat, e = .returned (.int .i32 (r : Int)) ∧ r ≤ n ∧ (∀ u, u < r → ¬ Fst.roundP A u) ∧ (r < n → Fst.roundP A r) ∧ Tch Non w1 w' from by rw [HN.out]; exact Fst.first_any n m cf ct af at' A w1 (by omega) (by have := b1.out.dg.hm; omega) (two_of b2.out b3.out) b1.out.dg.hA)
    clear HB
    go_upto_region 6 with (first | (go_at_call 6; refine HF.out.mono ?_; rintro e w2 ⟨r, rfl, c1, c2, c3, c4⟩; replace c2 := hide c2; replace c3 := hide c3; replace c4 := hide c4) | fail)
    have HA := hide (show Calls Ybad.prog 7 #[.pointer (some ⟨grs, 0, none⟩)] w2 fun e w' => e = .returned (.bool (decide ((r : Int) < nv % 8 + 1))) ∧ Tch (fun x => w.heap.size ≤ x) w w' from by
      refine (Any.any_any w w2 w.heap.size grs gd gg ga gh gs n m gr go gb (2 * n) (2 * n) (2 * n) al cl A st hd none _ _ (pre_none b1.out HG.out c4.out)).mono ?_
      rintro e w' ⟨b, c, rfl, _, f1, f2⟩
      refine ⟨?_, f1⟩
      rw [res_none f2 c1 c2.out c3.out]
      have e := HN.out
      congr 2
      simp only [decide_eq_decide]
      omega)
    clear HF c1
    go_wp2_with (first | (go_at_call 7; refine HA.out.mono ?_; rintro e w3 ⟨rfl, f1⟩; replace f1 := hide f1) | fail)
    go_ret
    exact ⟨by simp, f1.out⟩
end Go.Proofs.YbulkaxcDoor.Laws
