/-
  LawS0093CClosure: the row.
-/
import Derived.Test.YbulkaxcLawU
import Derived.ProofKit
import Derived.OpenShut
import Derived.ChangeOld
import Derived.Below
import Derived.Deep.Grids
namespace Go.Proofs.Ybulkaxc.lawS0093CClosure
open Go.ChangeShapes Go.WideShapes Go.ChangeAt Go.RowKit
open Go.Proofs.Ybulkaxc.M2 Go.Proofs.Ybulkaxc.Cm Go.Proofs.Ybulkaxc.Law
set_option linter.unusedVariables false
set_option linter.unusedSimpArgs false

theorem own : ownKnob Yba.prog.godebug = none := by kernel_rfl
theorem laidOut : laidOutB Yba.prog = true := by kernel_rfl
theorem cells5 : Yba.prog.cellsOf 5 = 1 := by kernel_rfl
theorem cells4 : Yba.prog.cellsOf 4 = 1 := by kernel_rfl
theorem cells42 : Yba.prog.cellsOf 42 = 1 := by kernel_rfl

/-- A slice of bytes that came in. -/
theorem openBytes {H : Type} {enc : TypeId × Value → H} {W : World} {v : Value} {fuel : Nat} {x : DataW H × List MemPlace}
    (h : DataW.trod enc Yba.prog W 0 (fun _ => true) true fuel 42 [v] = some x) :
    ∃ a len cap l, v = .slice a len cap ∧ Src .u8 W v (castN l) ∧ l.length = len ∧ (∀ y ∈ l, y ≤ 255) ∧ len ≤ maxLen := by
  rcases open_ints Yba.underlying42 Yba.underlying5 cells5 h with ⟨hcs, _⟩ | ⟨ad, len, cap, zs, hcs, _, hl, hm, hz, _, hcell, hwz⟩
  · simp at hcs
    subst hcs
    exact ⟨none, 0, 0, [], rfl, .inl ⟨rfl, _, _, rfl, fun _ => rfl⟩, rfl, by simp, by simp [maxLen]⟩
  · simp at hcs
    subst hcs
    have hz' : zs.length = cap := by simpa using hz
    have hb : ∀ y ∈ zs.take len, 0 ≤ y ∧ y ≤ 255 := fun y hy => bounds_u8 (hwz y (List.mem_of_mem_take hy))
    have hcast : castN ((zs.take len).map Int.toNat) = zs.take len := by
      unfold castN
      rw [List.map_map]
      conv => rhs; rw [← List.map_id (zs.take len)]
      apply List.map_congr_left
      intro y hy
      exact Int.toNat_of_nonneg (hb y hy).1
    refine ⟨some ad, len, cap, (zs.take len).map Int.toNat, rfl, ?_, by simp; omega, fun y hy => ?_, Nat.le_trans hl hm⟩
    · rw [hcast]
      have hlt : (zs.take len).length = len := by simp; omega
      by_cases h0 : len = 0
      · subst h0
        exact .inl ⟨by simp, _, _, rfl, fun e => by cases e⟩
      · obtain ⟨b, off, rfl, hc⟩ := ints_at hcell (by omega)
        refine .inr ⟨b, off, cap, by rw [hlt], fun i y hy => ?_⟩
        rw [List.getElem?_take] at hy
        split at hy
        · have hi := (List.getElem?_eq_some_iff.1 hy).1
          rw [hc i hi, List.getD_eq_getElem?_getD, hy]; rfl
        · cases hy
    · rw [List.mem_map] at hy
      obtain ⟨z, hz1, rfl⟩ := hy
      have := hb z hz1
      omega
/-- A slice of slices of bytes that came in. -/
theorem openKeys {H : Type} {enc : TypeId × Value → H} {W : World} {a : Option Addr} {len cap fuel : Nat} {x : DataW H × List MemPlace}
    (h : DataW.trod enc Yba.prog W 0 (fun _ => true) true fuel 43 (Value.slice a len cap).cells.toList = some x) :
    ∃ kb, Ksrc W (.slice a len cap) kb ∧ (∀ l ∈ kb, l.length ≤ maxLen ∧ ∀ y ∈ l, y ≤ 255) ∧ len ≤ maxLen := by
  rcases Go.Deep.open_slice1 Yba.underlying43 cells42 h with ⟨hcs, _⟩ | ⟨ad, len', cap', m, n, V, D, Pl, hcs, _, hl, hm, hmm, _, hx⟩
  · simp [Value.cells] at hcs
    obtain ⟨rfl, rfl, rfl⟩ := hcs
    exact ⟨[], ⟨⟨_, _, _, rfl, rfl⟩, fun i l hi => by simp at hi⟩, by simp, by simp [maxLen]⟩
  · simp [Value.cells] at hcs
    obtain ⟨rfl, rfl, rfl⟩ := hcs
    have hmm' : m = cap := by simpa using hmm
    have each : ∀ i, i < len → ∃ l : List Nat, (∃ a' c', V i = .slice a' l.length c') ∧ Src .u8 W (V i) (castN l) ∧ (∀ y ∈ l, y ≤ 255) ∧ l.length ≤ maxLen := by
      intro i hi
      obtain ⟨a', n', c', l, e, h1, h2, h3, h4⟩ := openBytes (hx i (by omega)).2
      exact ⟨l, ⟨a', c', by rw [e, h2]⟩, h1, h3, by omega⟩
    obtain ⟨q, hq⟩ := Go.Deep.choose_lt each
    refine ⟨(List.range len).map q, ⟨⟨_, _, _, rfl, by simp⟩, fun i l hi => ?_⟩, fun l hl => ?_, Nat.le_trans hl hm⟩
    · have hil : i < len := by have := (List.getElem?_eq_some_iff.1 hi).1; simpa using this
      have e : l = q i := by
        rw [List.getElem?_map, List.getElem?_range hil] at hi
        exact (Option.some.inj hi).symm
      subst e
      obtain ⟨⟨a', c', ev⟩, h1, _, _⟩ := hq i hil
      have hc := (hx i (by omega)).1
      obtain ⟨b, off, spot⟩ := ad
      have hspot : spot = none := by simpa [Addr.add] using World.cell?_spot (hx 0 (by omega)).1
      subst hspot
      rw [add_plain] at hc
      rw [ev] at hc h1
      exact ⟨b, off, len, cap, a', c', rfl, hc, h1⟩
    · rw [List.mem_map] at hl
      obtain ⟨i, hi, rfl⟩ := hl
      obtain ⟨_, _, h3, h4⟩ := hq i (List.mem_range.1 hi)
      exact ⟨h4, h3⟩
/-- A slice of bools that came in. -/
theorem openBools {H : Type} {enc : TypeId × Value → H} {W : World} {a : Option Addr} {len cap fuel : Nat} {x : DataW H × List MemPlace}
    (h : DataW.trod enc Yba.prog W 0 (fun _ => true) true fuel 44 (Value.slice a len cap).cells.toList = some x) :
    ∃ pa, Bsrc W (.slice a len cap) pa ∧ len ≤ maxLen := by
  rcases Go.Deep.open_bools Yba.underlying44 Yba.underlying4 cells4 h with ⟨hcs, _⟩ | ⟨ad, len', cap', B, hcs, _, hl, hm, _, hx⟩
  · simp [Value.cells] at hcs
    obtain ⟨rfl, rfl, rfl⟩ := hcs
    exact ⟨[], ⟨⟨_, _, _, rfl, rfl⟩, fun i l hi => by simp at hi⟩, by simp [maxLen]⟩
  · simp [Value.cells] at hcs
    obtain ⟨rfl, rfl, rfl⟩ := hcs
    refine ⟨(List.range len).map B, ⟨⟨_, _, _, rfl, by simp⟩, fun i l hi => ?_⟩, Nat.le_trans hl hm⟩
    have hil : i < len := by have := (List.getElem?_eq_some_iff.1 hi).1; simpa using this
    have e : l = B i := by
      rw [List.getElem?_map, List.getElem?_range hil] at hi
      exact (Option.some.inj hi).symm
    subst e
    have hc := hx i (by omega)
    obtain ⟨b, off, spot⟩ := ad
    have hspot : spot = none := by simpa [Addr.add] using World.cell?_spot (hx 0 (by omega))
    subst hspot
    rw [add_plain] at hc
    exact ⟨b, off, len, cap, rfl, hc⟩

set_option maxRecDepth 100000 in
theorem lifted (os : Os) (started : os.Started) (H : Type) (enc : TypeId × Value → H) :
    ReturnsInHanded {} Yba.checked os 4 .any (Rows.lawS0093CClosureSpec.pre6 enc Yba.prog Yba.f4 Rows.lawS0093CClosureRow.domain false) (Rows.lawS0093CClosureSpec.post enc Yba.prog Yba.f4 false true false false) := by
  refine returnsInHanded_of_change (C := Yba.checked) own started (by kernel_rfl) Yba.func4
    (ChangeSpec.witness6 (enc := enc) (C := Yba.checked) false ⟨#[], #[.int .u8 0, .slice none 0 0, .slice none 0 0, .slice none 0 0], []⟩ 8 (by kernel_rfl) (by kernel_rfl) (by kernel_rfl) (by kernel_rfl)) ?_
  intro W base args ds gs before hval0 hW hcnd _
  have hval : ∀ (j : Nat) t v, Yba.f4.params[j]? = some t → args[j]? = some v → Value.okWide Yba.prog W .any base t v := hval0
  have hW' := hW
  obtain ⟨p, q, hA0, hV, rfl, hfz, hnd⟩ := hW
  have hA : DataW.TrodAll enc Yba.prog W 0 (fun _ => true) true Yba.f4.params.toList args.toList ds p := hA0
  rw [Yba.params4] at hA hval
  obtain ⟨v0, vs0, d0, ds0, p0, q0, hargs, rfl, rfl, h0, r0⟩ := trodAll_cons hA
  obtain ⟨v1, vs1, d1, ds1, p1, q1, rfl, rfl, rfl, h1, r1⟩ := trodAll_cons r0
  obtain ⟨v2, vs2, d2, ds2, p2, q2, rfl, rfl, rfl, h2, r2⟩ := trodAll_cons r1
  obtain ⟨v3, vs3, d3, ds3, p3, q3, rfl, rfl, rfl, h3, r3⟩ := trodAll_cons r2
  obtain ⟨rfl, rfl, rfl⟩ := trodAll_nil r3
  obtain rfl : args = #[v0, v1, v2, v3] := by cases args; simp_all
  obtain ⟨rfl, rfl⟩ := trodVars_none hV
  obtain ⟨a0, rfl, rfl, rfl, w0⟩ := open_int Yba.underlying5 (hval 0 5 v0 rfl rfl) h0
  obtain ⟨a1, n1, c1, rfl⟩ := okWide_slice Yba.underlying42 (hval 1 42 v1 rfl rfl)
  obtain ⟨a2, n2, c2, rfl⟩ := okWide_slice Yba.underlying43 (hval 2 43 v2 rfl rfl)
  obtain ⟨a3, n3, c3, rfl⟩ := okWide_slice Yba.underlying44 (hval 3 44 v3 rfl rfl)
  have lt1 : ∀ x ∈ p1, x.block < W.heap.size := by obtain ⟨m, hm⟩ := h1; exact DataW.trod_lt m _ _ _ hm
  have lt2 : ∀ x ∈ p2, x.block < W.heap.size := by obtain ⟨m, hm⟩ := h2; exact DataW.trod_lt m _ _ _ hm
  have lt3 : ∀ x ∈ p3, x.block < W.heap.size := by obtain ⟨m, hm⟩ := h3; exact DataW.trod_lt m _ _ _ hm
  obtain ⟨b1, g1, e1, y1, z1⟩ : ∃ l, Src .u8 W (.slice a1 n1 c1) (castN l) ∧ l.length = n1 ∧ (∀ y ∈ l, y ≤ 255) ∧ n1 ≤ maxLen := by
    obtain ⟨fuel, hf⟩ := h1
    obtain ⟨a, len, cap, l, e, k1, k2, k3, k4⟩ := openBytes hf
    cases e
    exact ⟨l, k1, k2, k3, k4⟩
  obtain ⟨kb, g2, y2, z2⟩ : ∃ kb, Ksrc W (.slice a2 n2 c2) kb ∧ (∀ l ∈ kb, l.length ≤ maxLen ∧ ∀ y ∈ l, y ≤ 255) ∧ n2 ≤ maxLen := by obtain ⟨fuel, hf⟩ := h2; exact openKeys hf
  obtain ⟨pa, g3, z3⟩ : ∃ pa, Bsrc W (.slice a3 n3 c3) pa ∧ n3 ≤ maxLen := by obtain ⟨fuel, hf⟩ := h3; exact openBools hf
  clear hA0 hval0
  have b0 := bounds_u8 w0
  obtain ⟨m0, rfl⟩ := Int.eq_ofNat_of_zero_le b0.1
  refine (law_any W m0 n1 n2 n3 a1 a2 a3 c1 c2 c3 b1 kb pa (by omega) g1 e1 y1 g2 y2 g3 z1 z2 z3).mono fun e W' ⟨he, bel⟩ => ?_
  subst he
  exact ⟨_, rfl, _, _, _, [], _, [], hW', trodAll_mk1 (shut_bool Yba.underlying4 _),
    (trodAll_cons_mk (shut_int Yba.underlying5 w0) (trodAll_cons_mk (Below.trod laidOut (by kernel_rfl) (of_decide_eq_true (by kernel_rfl)) h1 bel lt1) (trodAll_cons_mk (Below.trod laidOut (by kernel_rfl) (of_decide_eq_true (by kernel_rfl)) h2 bel lt2)
      (trodAll_cons_mk (Below.trod laidOut (by kernel_rfl) (of_decide_eq_true (by kernel_rfl)) h3 bel lt3) trodAll_mk0)))), rfl, bel.frame _, fun h => by cases h⟩

theorem over : Rows.lawS0093CClosureRow.holds Yba.pinned (OpenSpec.ofChange Rows.lawS0093CClosureSpec) :=
  OpenClaim.holds_of_wide 4 Yba.f4 rfl rfl rfl rfl rfl rfl rfl ⟨rfl, rfl, rfl, rfl, rfl⟩ rfl rfl rfl rfl rfl (by kernel_rfl) Yba.func4 (by kernel_rfl)
    (of_decide_eq_true (by kernel_rfl)) (by unfold Func.isWrapper; first | (rw [if_pos (by decide +kernel)]; kernel_rfl) | (rw [if_neg (by decide +kernel)]; exact ⟨rfl, rfl⟩))
    (fun os started H enc _ => lifted os started H enc)

/-- THE STATEMENT -/
theorem proved : Rows.LawS0093CClosureSaid := over
#print axioms proved
end Go.Proofs.Ybulkaxc.lawS0093CClosure
