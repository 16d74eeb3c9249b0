/-
  The rows' common part: the listed variable, the arcs that came in.
-/
import Derived.Test.YbulkaxcDoorLaws
import Derived.Test.YbulkaxcDoorTie
import Derived.Test.YbulkaxcDoorCards
import Derived.ProofKit
import Derived.LaidMore
import Derived.OpenShut
import Derived.OpenVars
import Derived.Stop.Joined
import Derived.Lib.LaidTab
import Derived.SevenTiedAt
import Derived.Deep.SlicePairs
import Derived.ChangeOld
namespace Go.Proofs.YbulkaxcDoor.Laid
open Go.ChangeShapes Go.WideShapes Go.ChangeAt Go.RowKit
open Go.Proofs.YbulkaxcDoor.Mem Go.Proofs.YbulkaxcDoor.Build
set_option linter.unusedVariables false

abbrev vname : String := Rows.lawS0093BMatchesSpec.vars.headD ""
abbrev theLaid : List (String × DataW Unit) := [(vname, Rows.laid_example_com_isolith_isolith_checker_fewCrossing)]
theorem own : ownKnob Ybad.prog.godebug = none := by kernel_rfl
theorem laidOut : laidOutB Ybad.prog = true := by kernel_rfl
theorem gFew : Ybad.prog.globalNamed vname = some 0 := by kernel_rfl
theorem tFew : (Ybad.prog.globals[0]?).map (·.type) = some 3 := by kernel_rfl
theorem cells60 : Ybad.prog.cellsOf 60 = 2 := by kernel_rfl
theorem cells5 : Ybad.prog.cellsOf 5 = 1 := by kernel_rfl

/-- What the condition gives the walk: the variable's cell. -/
theorem of_laid {W : World} (h : laidMetH Ybad.prog theLaid W) : W.cell? ⟨0, 0, none⟩ = some (.int .i64 8) := by
  rw [MakeChecks.laidMetH_plain _ _ _ (by kernel_rfl)] at h
  obtain ⟨ps, ⟨g', t', cs, fuel, p, q, hg', ht', hvar, hd, _, _⟩, _⟩ := h
  obtain rfl := Option.some.inj (gFew.symm.trans hg')
  obtain rfl := Option.some.inj (tFew.symm.trans ht')
  obtain ⟨z, hz, hd', _⟩ := DataW.trod_int Ybad.underlying3 hd
  have e : z = 8 := by
    simp [Rows.laid_example_com_isolith_isolith_checker_fewCrossing] at hd'
    omega
  subst e
  have h1 := World.var?_cell gFew hvar 0
  have h2 : cs[0]? = some (.int .i64 8) := by
    have : cs.toList[0]? = some (.int .i64 8) := by rw [hz]; rfl
    simpa using this
  rw [h1, h2]

/-- A slice of arcs that came in. -/
theorem openArcs {H : Type} {enc : TypeId × Value → H} {W : World} {a : Option Addr} {len cap fuel : Nat} {x : DataW H × List MemPlace}
    (h : DataW.trod enc Ybad.prog W 0 (fun _ => true) true fuel 22 (Value.slice a len cap).cells.toList = some x) :
    ∃ xs, Arcs W a len xs ∧ len ≤ maxLen := by
  rcases Go.Deep.open_slice_pairs Ybad.underlying22 Ybad.underlying60 cells60 rfl rfl cells5 cells5 h with ⟨hcs, _⟩ | ⟨ad, l, c, mm, nn, V0, V1, D0, D1, P0, P1, hcs, _, hl, hm, hmm, _, hc⟩
  · simp [Value.cells] at hcs
    obtain ⟨rfl, rfl, rfl⟩ := hcs
    exact ⟨[], ⟨rfl, fun k f t hk => by simp at hk⟩, by simp [maxLen]⟩
  · simp [Value.cells] at hcs
    obtain ⟨rfl, rfl, rfl⟩ := hcs
    have hmm' : mm = cap := by simpa using hmm
    have each : ∀ i, i < len → ∃ q : Nat × Nat, W.cell? (ad.add (i * 2)) = some (.int .u8 (q.1 : Int)) ∧ W.cell? (ad.add (i * 2 + 1)) = some (.int .u8 (q.2 : Int)) ∧ q.1 ≤ 255 ∧ q.2 ≤ 255 := by
      intro i hi
      obtain ⟨e1, e2, e3, e4⟩ := hc i (by omega)
      obtain ⟨n0, g0, _, w0⟩ := DataW.trod_int Ybad.underlying5 e3
      obtain ⟨n1, g1, _, w1⟩ := DataW.trod_int Ybad.underlying5 e4
      have b0 := bounds_u8 w0
      have b1 := bounds_u8 w1
      obtain ⟨m0, rfl⟩ := Int.eq_ofNat_of_zero_le b0.1
      obtain ⟨m1, rfl⟩ := Int.eq_ofNat_of_zero_le b1.1
      simp only [List.cons.injEq, and_true] at g0 g1
      exact ⟨(m0, m1), by rw [e1, g0], by rw [e2, g1], by omega, by omega⟩
    obtain ⟨q, hq⟩ := Go.Deep.choose_lt each
    refine ⟨(List.range len).map q, ⟨by simp, fun k f t hk => ?_⟩, Nat.le_trans hl hm⟩
    rw [List.getElem?_map, Option.map_eq_some_iff] at hk
    obtain ⟨k', hk', e⟩ := hk
    have hkl : k < len := by have := (List.getElem?_eq_some_iff.1 hk').1; simpa using this
    rw [List.getElem?_range hkl] at hk'
    cases hk'
    obtain ⟨c1, c2, b1, b2⟩ := hq k hkl
    rw [e] at c1 c2 b1 b2
    obtain ⟨b, off, spot⟩ := ad
    have hspot : spot = none := by simpa [Addr.add] using World.cell?_spot (hq 0 (by omega)).1
    subst hspot
    rw [add_plain] at c1 c2
    exact ⟨b, off, rfl, c1, by rw [Nat.add_assoc]; exact c2, b1, b2⟩
end Go.Proofs.YbulkaxcDoor.Laid
