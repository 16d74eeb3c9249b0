/-
  LawS0093AStep: the row.
-/
import Derived.Test.YbulkaxcSegA
import Derived.ProofKit
import Derived.OpenShut
import Derived.ChangeOld
import Derived.Below
import Derived.Deep.SlicePairs
namespace Go.Proofs.Ybulkaxc.lawS0093AStep
open Go.ChangeShapes Go.WideShapes Go.ChangeAt Go.RowKit
open Go.Proofs.Ybulkaxc.Mem Go.Proofs.Ybulkaxc.Seg
set_option linter.unusedVariables false

theorem own : ownKnob Yba.prog.godebug = none := by kernel_rfl
theorem laidOut : laidOutB Yba.prog = true := by kernel_rfl
theorem cells21 : Yba.prog.cellsOf 21 = 1 := by kernel_rfl
theorem cells31 : Yba.prog.cellsOf 31 = 2 := by kernel_rfl
theorem cells5 : Yba.prog.cellsOf 5 = 1 := by kernel_rfl

/-- A slice of int32 that came in, as the walk wants it. -/
theorem open32 {H : Type} {enc : TypeId × Value → H} {W : World} {a : Option Addr} {len cap fuel : Nat} {x : DataW H × List MemPlace}
    (h : DataW.trod enc Yba.prog W 0 (fun _ => true) true fuel 23 (Value.slice a len cap).cells.toList = some x) :
    ∃ l, Src W (.slice a len cap) l ∧ (∀ y ∈ l, -2147483648 ≤ y ∧ y ≤ 2147483647) ∧ len ≤ maxLen := by
  rcases open_ints Yba.underlying23 Yba.underlying21 cells21 h with ⟨hcs, _⟩ | ⟨ad, l, c, zs, hcs, _, hl, hm, hz, _, hcell, hwz⟩
  · simp [Value.cells] at hcs
    obtain ⟨rfl, rfl, rfl⟩ := hcs
    exact ⟨[], .inl ⟨rfl, _, _, rfl, fun _ => rfl⟩, by simp, by simp [maxLen]⟩
  · simp [Value.cells] at hcs
    obtain ⟨rfl, rfl, rfl⟩ := hcs
    have hz' : zs.length = cap := by simpa using hz
    refine ⟨zs.take len, ?_, fun y hy => bounds_i32 (hwz y (List.mem_of_mem_take hy)), Nat.le_trans hl hm⟩
    have hlt : (zs.take len).length = len := by simp; omega
    by_cases h0 : len = 0
    · subst h0
      exact .inl ⟨by simp, _, _, rfl, fun e => by cases e⟩
    · obtain ⟨b, off, rfl, hc⟩ := ints_at hcell (by omega)
      refine .inr ⟨b, off, cap, by rw [hlt], fun i y hy => ?_⟩
      rw [List.getElem?_take] at hy
      split at hy
      · have hi := (List.getElem?_eq_some_iff.1 hy).1
        rw [hc i hi, List.getD_eq_getElem?_getD, hy]; rfl
      · cases hy

/-- A slice of arcs that came in. -/
theorem openArcs {H : Type} {enc : TypeId × Value → H} {W : World} {a : Option Addr} {len cap fuel : Nat} {x : DataW H × List MemPlace}
    (h : DataW.trod enc Yba.prog W 0 (fun _ => true) true fuel 22 (Value.slice a len cap).cells.toList = some x) :
    ∃ xs, Arcs W a len xs ∧ len ≤ maxLen := by
  rcases Go.Deep.open_slice_pairs Yba.underlying22 Yba.underlying31 cells31 rfl rfl cells5 cells5 h with ⟨hcs, _⟩ | ⟨ad, l, c, mm, nn, V0, V1, D0, D1, P0, P1, hcs, _, hl, hm, hmm, _, hc⟩
  · simp [Value.cells] at hcs
    obtain ⟨rfl, rfl, rfl⟩ := hcs
    exact ⟨[], ⟨rfl, fun k f t hk => by simp at hk⟩, by simp [maxLen]⟩
  · simp [Value.cells] at hcs
    obtain ⟨rfl, rfl, rfl⟩ := hcs
    have hmm' : mm = cap := by simpa using hmm
    have each : ∀ i, i < len → ∃ q : Nat × Nat, W.cell? (ad.add (i * 2)) = some (.int .u8 (q.1 : Int)) ∧ W.cell? (ad.add (i * 2 + 1)) = some (.int .u8 (q.2 : Int)) ∧ q.1 ≤ 255 ∧ q.2 ≤ 255 := by
      intro i hi
      obtain ⟨e1, e2, e3, e4⟩ := hc i (by omega)
      obtain ⟨n0, g0, _, w0⟩ := DataW.trod_int Yba.underlying5 e3
      obtain ⟨n1, g1, _, w1⟩ := DataW.trod_int Yba.underlying5 e4
      have b0 := bounds_u8 w0
      have b1 := bounds_u8 w1
      obtain ⟨m0, rfl⟩ := Int.eq_ofNat_of_zero_le b0.1
      obtain ⟨m1, rfl⟩ := Int.eq_ofNat_of_zero_le b1.1
      simp only [List.cons.injEq, and_true] at g0 g1
      exact ⟨(m0, m1), by rw [e1, g0], by rw [e2, g1], by omega, by omega⟩
    obtain ⟨q, hq⟩ := Go.Deep.choose_lt each
    refine ⟨(List.range len).map q, ⟨by simp, fun k f t hk => ?_⟩, Nat.le_trans hl hm⟩
    rw [List.getElem?_map, Option.map_eq_some_iff] at hk
    obtain ⟨k', hk', e⟩ := hk
    have hkl : k < len := by have := (List.getElem?_eq_some_iff.1 hk').1; simpa using this
    rw [List.getElem?_range hkl] at hk'
    cases hk'
    obtain ⟨c1, c2, b1, b2⟩ := hq k hkl
    rw [e] at c1 c2 b1 b2
    obtain ⟨b, off, spot⟩ := ad
    have hspot : spot = none := by simpa [Addr.add] using World.cell?_spot (hq 0 (by omega)).1
    subst hspot
    rw [add_plain] at c1 c2
    exact ⟨b, off, rfl, c1, by rw [Nat.add_assoc]; exact c2, b1, b2⟩

/-- The block of a slice that came in lies in old memory. -/
theorem old_block {W : World} {a : Option Addr} {len cap : Nat} {l : List Int} (h : Src W (.slice a len cap) l) (hne : l ≠ []) : ∀ g, (Value.slice a len cap).ownBlock = some g → g < W.heap.size := by
  intro g hg
  have hl : 0 < l.length := List.length_pos_iff.2 hne
  obtain ⟨h1, h2⟩ := Seg.Src.at h
  obtain ⟨b, off, x, rfl, _, hc⟩ := h2 0 (by omega)
  have : b = g := Option.some.inj hg
  rw [← this]
  exact World.block_lt_of_cell? _ _ hc

theorem walk (a0 a1 a2 a3 : Int) (m c4 n5 c5 n6 c6 n7 c7 : Nat) (a4 a5 a6 a7 : Option Addr) (xs : List (Nat × Nat)) (dga tka pta : List Int) (w : World)
    (r0 : 0 ≤ a0 ∧ a0 ≤ 255) (r1 : 0 ≤ a1 ∧ a1 ≤ 255) (r2 : 0 ≤ a2 ∧ a2 ≤ 255) (r3 : 0 ≤ a3 ∧ a3 ≤ 255)
    (h4 : Arcs w a4 m xs) (h5 : Src w (.slice a5 n5 c5) dga) (h6 : Src w (.slice a6 n6 c6) tka) (h7 : Src w (.slice a7 n7 c7) pta) (hdg : ∀ y ∈ dga, -2147483648 ≤ y ∧ y ≤ 2147483647)
    (x4 : m ≤ maxLen) (x5 : n5 ≤ maxLen) (x6 : n6 ≤ maxLen) (x7 : n7 ≤ maxLen) :
    Calls Yba.prog 3 #[.int .u8 a0, .int .u8 a1, .int .u8 a2, .int .u8 a3, .slice a4 m c4, .slice a5 n5 c5, .slice a6 n6 c6, .slice a7 n7 c7] w fun e w' => e = .returned (.bool true) ∧ Below w.heap.size w w' := by
  by_cases hbig : (1024 : Int) < m ∨ (1024 : Int) < n5 ∨ (1024 : Int) < n6 ∨ (1024 : Int) < n7
  · exact walk_big a0 a1 a2 a3 m c4 n5 c5 n6 c6 n7 c7 a4 a5 a6 a7 w x4 x5 x6 x7 hbig
  · exact walk_small a0 a1 a2 a3 m c4 n5 c5 n6 c6 n7 c7 a4 a5 a6 a7 xs dga tka pta w r0 r1 r2 r3 h4 h5 h6 h7 hdg (old_block h5) (old_block h6) (old_block h7) (by omega) (by omega) (by omega) (by omega)

set_option maxRecDepth 100000 in
theorem lifted (os : Os) (started : os.Started) (H : Type) (enc : TypeId × Value → H) :
    ReturnsInHanded {} Yba.checked os 3 .any (Rows.lawS0093AStepSpec.pre6 enc Yba.prog Yba.f3 Rows.lawS0093AStepRow.domain false) (Rows.lawS0093AStepSpec.post enc Yba.prog Yba.f3 false true false false) := by
  refine returnsInHanded_of_change (C := Yba.checked) own started (by kernel_rfl) Yba.func3
    (ChangeSpec.witness6 (enc := enc) (C := Yba.checked) false ⟨#[], #[.int .u8 0, .int .u8 0, .int .u8 0, .int .u8 0, .slice none 0 0, .slice none 0 0, .slice none 0 0, .slice none 0 0], []⟩ 8 (by kernel_rfl) (by kernel_rfl) (by kernel_rfl) (by kernel_rfl)) ?_
  intro W base args ds gs before hval0 hW hcnd _
  have hval : ∀ (j : Nat) t v, Yba.f3.params[j]? = some t → args[j]? = some v → Value.okWide Yba.prog W .any base t v := hval0
  have hW' := hW
  obtain ⟨p, q, hA0, hV, rfl, hfz, hnd⟩ := hW
  have hA : DataW.TrodAll enc Yba.prog W 0 (fun _ => true) true Yba.f3.params.toList args.toList ds p := hA0
  rw [Yba.params3] at hA hval
  obtain ⟨v0, vs0, d0, ds0, p0, q0, hargs, rfl, rfl, h0, r0⟩ := trodAll_cons hA
  obtain ⟨v1, vs1, d1, ds1, p1, q1, rfl, rfl, rfl, h1, r1⟩ := trodAll_cons r0
  obtain ⟨v2, vs2, d2, ds2, p2, q2, rfl, rfl, rfl, h2, r2⟩ := trodAll_cons r1
  obtain ⟨v3, vs3, d3, ds3, p3, q3, rfl, rfl, rfl, h3, r3⟩ := trodAll_cons r2
  obtain ⟨v4, vs4, d4, ds4, p4, q4, rfl, rfl, rfl, h4, r4⟩ := trodAll_cons r3
  obtain ⟨v5, vs5, d5, ds5, p5, q5, rfl, rfl, rfl, h5, r5⟩ := trodAll_cons r4
  obtain ⟨v6, vs6, d6, ds6, p6, q6, rfl, rfl, rfl, h6, r6⟩ := trodAll_cons r5
  obtain ⟨v7, vs7, d7, ds7, p7, q7, rfl, rfl, rfl, h7, r7⟩ := trodAll_cons r6
  obtain ⟨rfl, rfl, rfl⟩ := trodAll_nil r7
  obtain rfl : args = #[v0, v1, v2, v3, v4, v5, v6, v7] := by cases args; simp_all
  obtain ⟨rfl, rfl⟩ := trodVars_none hV
  obtain ⟨a0, rfl, rfl, rfl, w0⟩ := open_int Yba.underlying5 (hval 0 5 v0 rfl rfl) h0
  obtain ⟨a1, rfl, rfl, rfl, w1⟩ := open_int Yba.underlying5 (hval 1 5 v1 rfl rfl) h1
  obtain ⟨a2, rfl, rfl, rfl, w2⟩ := open_int Yba.underlying5 (hval 2 5 v2 rfl rfl) h2
  obtain ⟨a3, rfl, rfl, rfl, w3⟩ := open_int Yba.underlying5 (hval 3 5 v3 rfl rfl) h3
  obtain ⟨a4, m4, c4, rfl⟩ := okWide_slice Yba.underlying22 (hval 4 22 v4 rfl rfl)
  obtain ⟨a5, n5, c5, rfl⟩ := okWide_slice Yba.underlying23 (hval 5 23 v5 rfl rfl)
  obtain ⟨a6, n6, c6, rfl⟩ := okWide_slice Yba.underlying23 (hval 6 23 v6 rfl rfl)
  obtain ⟨a7, n7, c7, rfl⟩ := okWide_slice Yba.underlying23 (hval 7 23 v7 rfl rfl)
  have lt4 : ∀ x ∈ p4, x.block < W.heap.size := by obtain ⟨m, hm⟩ := h4; exact DataW.trod_lt m _ _ _ hm
  have lt5 : ∀ x ∈ p5, x.block < W.heap.size := by obtain ⟨m, hm⟩ := h5; exact DataW.trod_lt m _ _ _ hm
  have lt6 : ∀ x ∈ p6, x.block < W.heap.size := by obtain ⟨m, hm⟩ := h6; exact DataW.trod_lt m _ _ _ hm
  have lt7 : ∀ x ∈ p7, x.block < W.heap.size := by obtain ⟨m, hm⟩ := h7; exact DataW.trod_lt m _ _ _ hm
  obtain ⟨xs, g4, y4⟩ : ∃ xs, Arcs W a4 m4 xs ∧ m4 ≤ maxLen := by obtain ⟨fuel, hf⟩ := h4; exact openArcs hf
  obtain ⟨l5, g5, b5, y5⟩ : ∃ l, Src W (.slice a5 n5 c5) l ∧ (∀ y ∈ l, -2147483648 ≤ y ∧ y ≤ 2147483647) ∧ n5 ≤ maxLen := by obtain ⟨fuel, hf⟩ := h5; exact open32 hf
  obtain ⟨l6, g6, b6, y6⟩ : ∃ l, Src W (.slice a6 n6 c6) l ∧ (∀ y ∈ l, -2147483648 ≤ y ∧ y ≤ 2147483647) ∧ n6 ≤ maxLen := by obtain ⟨fuel, hf⟩ := h6; exact open32 hf
  obtain ⟨l7, g7, b7, y7⟩ : ∃ l, Src W (.slice a7 n7 c7) l ∧ (∀ y ∈ l, -2147483648 ≤ y ∧ y ≤ 2147483647) ∧ n7 ≤ maxLen := by obtain ⟨fuel, hf⟩ := h7; exact open32 hf
  clear hA0 hval0
  refine (walk a0 a1 a2 a3 m4 c4 n5 c5 n6 c6 n7 c7 a4 a5 a6 a7 xs l5 l6 l7 W (bounds_u8 w0) (bounds_u8 w1) (bounds_u8 w2) (bounds_u8 w3) g4 g5 g6 g7 b5 y4 y5 y6 y7).mono fun e W' ⟨he, bel⟩ => ?_
  subst he
  exact ⟨_, rfl, _, _, _, [], _, [], hW', trodAll_mk1 (shut_bool Yba.underlying4 _),
    (trodAll_cons_mk (shut_int Yba.underlying5 w0) (trodAll_cons_mk (shut_int Yba.underlying5 w1) (trodAll_cons_mk (shut_int Yba.underlying5 w2) (trodAll_cons_mk (shut_int Yba.underlying5 w3)
      (trodAll_cons_mk (Below.trod laidOut (by kernel_rfl) (of_decide_eq_true (by kernel_rfl)) h4 bel lt4) (trodAll_cons_mk (Below.trod laidOut (by kernel_rfl) (of_decide_eq_true (by kernel_rfl)) h5 bel lt5)
      (trodAll_cons_mk (Below.trod laidOut (by kernel_rfl) (of_decide_eq_true (by kernel_rfl)) h6 bel lt6) (trodAll_cons_mk (Below.trod laidOut (by kernel_rfl) (of_decide_eq_true (by kernel_rfl)) h7 bel lt7) trodAll_mk0)))))))), rfl, bel.frame _, fun h => by cases h⟩

theorem over : Rows.lawS0093AStepRow.holds Yba.pinned (OpenSpec.ofChange Rows.lawS0093AStepSpec) :=
  OpenClaim.holds_of_wide 3 Yba.f3 rfl rfl rfl rfl rfl rfl rfl ⟨rfl, rfl, rfl, rfl, rfl⟩ rfl rfl rfl rfl rfl (by kernel_rfl) Yba.func3 (by kernel_rfl)
    (of_decide_eq_true (by kernel_rfl)) (by unfold Func.isWrapper; first | (rw [if_pos (by decide +kernel)]; kernel_rfl) | (rw [if_neg (by decide +kernel)]; exact ⟨rfl, rfl⟩))
    (fun os started H enc _ => lifted os started H enc)

/-- THE STATEMENT -/
theorem proved : Rows.LawS0093AStepSaid := over
#print axioms proved
end Go.Proofs.Ybulkaxc.lawS0093AStep
