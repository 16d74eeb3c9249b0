/-
  For the end of the building: the three rows made in any order; all that has been built.
-/
import Derived.Test.YbulkaxcDoorBuild0
namespace Go.Proofs.YbulkaxcDoor.Build
open Go Go.RowKit Go.Proofs.YbulkaxcDoor.Mem Go.Proofs.YbulkaxcDoor.Pl Go.Proofs.YbulkaxcDoor.RS Go.Proofs.YbulkaxcDoor.Dg Go.Proofs.YbulkaxcDoor.Cross
set_option linter.unusedVariables false

theorem info110 : (Ybad.prog.info? 110).map (fun i => (i.zero, i.size, i.bytes)) = some (some (.agg #[.int .i8 0, .int .i8 0, .int .i8 0, .int .i8 0, .int .i8 0]), 5, 5) := by kernel_rfl

theorem step_make {w : World} {ops : Array Oper} {o : Oper} {a : Act} {K : Act → World → Prop} {Q : Exit → Act → World → Prop} {E : Prop} (hgd : o.guard = none) (x : Operand) (ho : o.op = Op.makeSlice 24 x x) {L : Int} (n : Nat) (hx : a.eval x = .int .i32 L) (hL : L = ((2 * n : Nat) : Int)) (hn : n ≤ 8)
    (h : ∀ w', Own .i32 21 w' w.heap.size (.slice (some ⟨w.heap.size, 0, none⟩) (2 * n) (2 * n)) (List.replicate (2 * n) 0) → Tch Non w w' → K (a.put o.dst (.slice (some ⟨w.heap.size, 0, none⟩) (2 * n) (2 * n))) w') :
    if Region.wanted o (yielded ops a.tmps) = true then Oper.wp Ybad.prog o a w K Q else E := by
  have hw : Region.wanted o (yielded ops a.tmps) = true := by simp [Region.wanted, hgd]
  rw [if_pos hw]
  obtain ⟨i0, hi, hz0, hz1, hz2⟩ := info_parts Fwd.info21
  obtain ⟨w', hrun, r1, r2⟩ := run_make_full (P := Ybad.prog) w w.heap.size 24 21 i0 (.int .i32 0) 1 Ybad.underlying24 hi hz0 hz1 .i32 .i32 (2 * n) (by rw [hz2]; omega) (by unfold maxLen; omega) (Nat.le_refl _)
  subst hL
  unfold Oper.wp
  have e : (execOp a.eval o).run Ybad.prog w = .ok (.value (.slice (some ⟨w.heap.size, 0, none⟩) (2 * n) (2 * n))) w' := by
    simp only [execOp, ho, hx, Sem.run_bind, hrun, Result.andThen_ok]; rfl
  rw [e]
  exact h w' (Own.made r1) ((Tch.refl _ _).of_grownBy r2 (by simp))

def s0 (n gr go gb : Nat) : Rs :=
  { onw := List.replicate (2 * n) 0, beh := List.replicate (2 * n) 0, stk := [], into := [], tls := [], ys := [], near := [], vr := .slice (some ⟨gr, 0, none⟩) (2 * n) (2 * n), vo := .slice (some ⟨go, 0, none⟩) (2 * n) (2 * n), vb := .slice (some ⟨gb, 0, none⟩) (2 * n) (2 * n),
    vs := .slice none 0 0, vi := .slice none 0 0, vt := .slice none 0 0, vy := .slice none 0 0, va := .slice none 0 0, vn := .slice none 0 0, srch := 0, marked := 0, nA := 0 }
def tag0 (grs gr go gb : Nat) (x : Nat) : Nat := if x = grs then 1 else if x = gr then 2 else if x = go then 3 else if x = gb then 4 else 0
theorem tag0_no {grs gr go gb x : Nat} (h1 : x ≠ grs) (h2 : x ≠ gr) (h3 : x ≠ go) (h4 : x ≠ gb) : tag0 grs gr go gb x = 0 := by unfold tag0; rw [if_neg h1, if_neg h2, if_neg h3, if_neg h4]
theorem tag0_yes {grs gr go gb x : Nat} (h : tag0 grs gr go gb x ≠ 0) : x = grs ∨ x = gr ∨ x = go ∨ x = gb := by
  unfold tag0 at h
  split at h
  · exact .inl (by assumption)
  · split at h
    · exact .inr (.inl (by assumption))
    · split at h
      · exact .inr (.inr (.inl (by assumption)))
      · split at h
        · exact .inr (.inr (.inr (by assumption)))
        · exact absurd rfl h

/-- All that has been built. -/
structure Built (w W : World) (n m grs gd gg ga gh gs gr go gb : Nat) (al : Option Addr) (cl : Nat) (A : List (Nat × Nat)) (st hd : List Int) : Prop where
  good : Any1.Good W w.heap.size grs gd n m gr go gb (2 * n) (2 * n) (2 * n) (tag0 grs gr go gb) A (s0 n gr go gb)
  dg : DG W (tag0 grs gr go gb) gd gg ga gh gs n m al cl A st hd
  arcs : ∀ k, k < m → ArcAt W (tag0 grs gr go gb) ga k
  can : Fix W (tag0 grs gr go gb) ⟨gg, 22, none⟩ .nilIface
  fz : W.frozen? ⟨gg, 22, none⟩ = false
  ne : gg ≠ gd ∧ gg ≠ ga ∧ gg ≠ gh ∧ gg ≠ gs
  ge : w.heap.size ≤ gg ∧ w.heap.size ≤ gd ∧ w.heap.size ≤ ga ∧ w.heap.size ≤ gh ∧ w.heap.size ≤ gs ∧ w.heap.size ≤ gr ∧ w.heap.size ≤ go ∧ w.heap.size ≤ gb ∧ w.heap.size ≤ grs
  lt : ga < W.heap.size ∧ gh < W.heap.size
  fr : Tch Non w W

theorem assemble {w W : World} {n m lo grs gd gg ga gh gs gr go gb : Nat} {al : Option Addr} {cl : Nat} {A : List (Nat × Nat)} {st hd fl : List Int} {cg : List Value}
    (bd : Blk W gd 54 [.pointer (some ⟨gg, 0, none⟩), .int .i32 (n : Int), .slice al 2 cl, .int .i32 1, .slice (some ⟨ga, 0, none⟩) m m, .slice (some ⟨gh, 0, none⟩) m m, .slice (some ⟨gs, 0, none⟩) (2 * n + 1) (2 * n + 1)])
    (bg : Blk W gg 50 cg) (hcg : cg[22]? = some .nilIface) (ost : Own .i32 21 W w.heap.size (.slice (some ⟨gs, 0, none⟩) (2 * n + 1) (2 * n + 1)) st) (ohd : Own .i32 21 W w.heap.size (.slice (some ⟨gh, 0, none⟩) m m) hd) (oa : ArcB W ga m)
    (o1 : Own .i32 21 W w.heap.size (.slice (some ⟨gr, 0, none⟩) (2 * n) (2 * n)) (List.replicate (2 * n) 0)) (o2 : Own .i32 21 W w.heap.size (.slice (some ⟨go, 0, none⟩) (2 * n) (2 * n)) (List.replicate (2 * n) 0)) (o3 : Own .i32 21 W w.heap.size (.slice (some ⟨gb, 0, none⟩) (2 * n) (2 * n)) (List.replicate (2 * n) 0))
    (br : Blk W grs 57 ((s0 n gr go gb).cells gd)) (hp : Pl.Pre (fsOf A) (2 * n) (2 * n) st) (hf : Fil A (2 * n) A.length fl hd) (hl : A.length = m) (hA : ∀ a b, (a, b) ∈ A → a < 2 * n ∧ b < 2 * n) (hn : n ≤ 8) (hn1 : 1 ≤ n) (hm : m ≤ 2000)
    (l1 : gs < lo) (l2 : gh < lo) (l3 : ga < lo) (l4 : gg < lo) (l5 : gd < lo) (m1 : lo ≤ gr) (m2 : lo ≤ go) (m3 : lo ≤ gb) (k1 : gr < grs) (k2 : go < grs) (k3 : gb < grs) (d1 : gr ≠ go) (d2 : gr ≠ gb) (d3 : go ≠ gb)
    (e1 : gg ≠ gd) (e2 : gg ≠ ga) (e3 : gg ≠ gh) (e4 : gg ≠ gs) (g1 : w.heap.size ≤ gg) (g2 : w.heap.size ≤ gd) (g3 : w.heap.size ≤ ga) (fr : Tch Non w W) :
    Built w W n m grs gd gg ga gh gs gr go gb al cl A st hd := by
  have tn : ∀ x, x < lo → tag0 grs gr go gb x = 0 := fun x hx => tag0_no (by omega) (by omega) (by omega) (by omega)
  have t1 : tag0 grs gr go gb grs = 1 := by unfold tag0; rw [if_pos rfl]
  have t2 : tag0 grs gr go gb gr = 2 := by unfold tag0; rw [if_neg (by omega), if_pos rfl]
  have t3 : tag0 grs gr go gb go = 3 := by unfold tag0; rw [if_neg (by omega), if_neg (by omega), if_pos rfl]
  have t4 : tag0 grs gr go gb gb = 4 := by unfold tag0; rw [if_neg (by omega), if_neg (by omega), if_neg (by omega), if_pos rfl]
  have hrep : ∀ (i : Nat) (v : Int), (List.replicate (2 * n) (0 : Int))[i]? = some v → v ≤ 0 := fun i v hv => by rw [List.eq_of_mem_replicate (List.mem_of_getElem? hv)]; exact Int.le_refl _
  have hrs : RS W w.heap.size grs gd (2 * n) (tag0 grs gr go gb) (s0 n gr go gb) := by
    refine ⟨br, fun i => ?_, fr.size, t1, fun i g hg => ?_⟩
    · unfold Rs.own
      split
      · exact o1
      · exact o2
      · exact o3
      · exact Own.nil _ _ _ _
      · exact Own.nil _ _ _ _
      · exact Own.nil _ _ _ _
      · exact Own.nil _ _ _ _
      · exact ⟨[], World.ownsRow_nil _ _ _ _⟩
      · exact Own.nil _ _ _ _
      · trivial
    · unfold Rs.val at hg
      split at hg
      · have e : gr = g := Option.some.inj hg
        rw [← e]; exact t2
      · have e : go = g := Option.some.inj hg
        rw [← e]; exact t3
      · have e : gb = g := Option.some.inj hg
        rw [← e]; exact t4
      all_goals exact absurd hg (by simp [s0, Value.ownBlock])
  refine ⟨⟨hrs, rfl, rfl, rfl, .inl rfl, hrep, hrep, Int.le_refl _⟩, ⟨⟨bd.cell 0, tn _ l5⟩, ⟨bd.cell 1, tn _ l5⟩, ⟨bd.cell 2, tn _ l5⟩, ⟨bd.cell 3, tn _ l5⟩, ⟨bd.cell 4, tn _ l5⟩, ⟨bd.cell 5, tn _ l5⟩, ⟨bd.cell 6, tn _ l5⟩, fun i x hx => ⟨ost.at hx, tn _ l1⟩, fun i x hx => ⟨ohd.at hx, tn _ l2⟩, hf.csr hp, hl, hA, hn, hn1, hm⟩, fun k hk => oa.arcAt hk (tn _ l3), ⟨(bg.cell 22).trans hcg, tn _ l4⟩, bg.frozen 22, ⟨e1, e2, e3, e4⟩, ⟨g1, g2, g3, (ohd.lt (g := gh) rfl).1, (ost.lt (g := gs) rfl).1, (o1.lt (g := gr) rfl).1, (o2.lt (g := go) rfl).1, (o3.lt (g := gb) rfl).1, by have := (o1.lt (g := gr) rfl).1; omega⟩, ⟨by obtain ⟨cs, hb, _⟩ := oa; exact hb.lt, (ohd.lt (g := gh) rfl).2⟩, fr⟩
end Go.Proofs.YbulkaxcDoor.Build
