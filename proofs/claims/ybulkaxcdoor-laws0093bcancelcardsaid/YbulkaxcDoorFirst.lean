/-
  zzs0093breach, zzs0093bround, zzs0093bfirst, by contracts.
-/
import Derived.Test.YbulkaxcDoorRows
import Derived.Test.YbulkaxcDoorMem
import Derived.Test.YbulkaxcDoorPlain
import Derived.Deep.DeepCutAuto
import Derived.Deep.QuietTactic
import Derived.BigQuiet
namespace Go.Proofs.YbulkaxcDoor.Fst
open Go Go.RowKit Go.Proofs.YbulkaxcDoor.Mem Go.Proofs.YbulkaxcDoor.Pl
set_option linter.unusedVariables false

theorem info4 : (Ybad.prog.info? 4).map (fun i => (i.zero, i.size, i.bytes)) = some (some (.bool false), 1, 1) := by kernel_rfl

/-- A slice of bools that the call owns. -/
def OwnB (w : World) (B : Nat) (v : Value) (r : List Bool) : Prop := w.ownsRow B 4 1 v r.length (r.map Value.bool)
section
variable {w w' : World} {B g n cap : Nat} {r : List Bool}
theorem OwnB.len (h : OwnB w B (.slice (some ⟨g, 0, none⟩) n cap) r) : r.length = n := by
  rcases h.2 with ⟨e, _⟩ | ⟨g', cap', cur, e, _⟩
  · cases e
  · cases e; rfl
theorem OwnB.cell (h : OwnB w B (.slice (some ⟨g, 0, none⟩) n cap) r) {i : Nat} {x : Bool} (hx : r[i]? = some x) : w.cell? ⟨g, i, none⟩ = some (.bool x) := by
  have hn := h.len
  subst hn
  have hi := (List.getElem?_eq_some_iff.1 hx).1
  have := World.ownsRow.cellAt h i (by omega)
  rw [this, List.getElem?_map, hx]; rfl
theorem OwnB.frozen (h : OwnB w B (.slice (some ⟨g, 0, none⟩) n cap) r) (i : Nat) : w.frozen? ⟨g, i, none⟩ = false := by
  rcases h.2 with ⟨hv, _⟩ | ⟨g', cap', cur, hv, _, hg, _⟩
  · cases hv
  · cases hv; exact frozen_of_row w g i cur 4 hg
theorem OwnB.set (h : OwnB w B (.slice (some ⟨g, 0, none⟩) n cap) r) (i : Nat) (y : Bool) : OwnB (w.setCell ⟨g, i, none⟩ (.bool y)) B (.slice (some ⟨g, 0, none⟩) n cap) (r.set i y) := by
  have hn := h.len
  subst hn
  have := (World.ownsRow.stored h i (.bool y)).1
  unfold OwnB
  rw [List.length_set, List.map_set]
  exact this
theorem OwnB.made {v : Value} (h : w.ownsRow B 4 1 v n (madeCells (Value.bool false).cells (n * 1)).toList) : OwnB w B v (List.replicate n false) := by
  have e : (madeCells (Value.bool false).cells (n * 1)).toList = (List.replicate n false).map Value.bool := by
    rw [Nat.mul_one]
    have : (Value.bool false).cells = #[.bool false] := rfl
    rw [this, toList_madeCells_one]; simp
  rw [e] at h
  unfold OwnB
  rw [List.length_replicate]
  exact h
end

theorem Src.at {k : IntKind} {w : World} {a : Option Addr} {n c : Nat} {l : List Int} (h : Src k w (.slice a n c) l) : l.length = n ∧ ∀ i, i < n → ∃ b off, a = some ⟨b, off, none⟩ ∧ ∀ i x, l[i]? = some x → w.cell? ⟨b, off + i, none⟩ = some (.int k x) := by
  rcases h with ⟨rfl, a', c', e, _⟩ | ⟨b, off, c', e, h⟩
  · cases e
    exact ⟨rfl, fun k hk => by omega⟩
  · cases e
    exact ⟨rfl, fun i hi => ⟨b, off, rfl, h⟩⟩

def fro (A : List (Nat × Nat)) : List Int := A.map fun e => (e.1 : Int)
def too (A : List (Nat × Nat)) : List Int := A.map fun e => (e.2 : Int)
theorem fro_at {A : List (Nat × Nat)} {i f t : Nat} (h : A[i]? = some (f, t)) : (fro A)[i]? = some (f : Int) := by unfold fro; rw [List.getElem?_map, h]; rfl
theorem too_at {A : List (Nat × Nat)} {i f t : Nat} (h : A[i]? = some (f, t)) : (too A)[i]? = some (t : Int) := by unfold too; rw [List.getElem?_map, h]; rfl
/-- The two slices of arcs. -/
structure Two (w : World) (af at' : Option Addr) (N : Nat) (cf ct : Nat) (A : List (Nat × Nat)) : Prop where
  f : Src .i32 w (.slice af N cf) (fro A)
  t : Src .i32 w (.slice at' N ct) (too A)
theorem Two.len {w : World} {af at' : Option Addr} {N cf ct : Nat} {A : List (Nat × Nat)} (h : Two w af at' N cf ct A) : A.length = N := by
  have := (Src.at h.f).1
  simpa [fro] using this
theorem Two.get {w : World} {af at' : Option Addr} {N cf ct : Nat} {A : List (Nat × Nat)} (h : Two w af at' N cf ct A) {i : Nat} (hi : i < N) :
    ∃ f t b1 o1 b2 o2, A[i]? = some (f, t) ∧ af = some ⟨b1, o1, none⟩ ∧ at' = some ⟨b2, o2, none⟩ ∧ w.cell? ⟨b1, o1 + i, none⟩ = some (.int .i32 (f : Int)) ∧ w.cell? ⟨b2, o2 + i, none⟩ = some (.int .i32 (t : Int)) := by
  obtain ⟨b1, o1, e1, c1⟩ := (Src.at h.f).2 i hi
  obtain ⟨b2, o2, e2, c2⟩ := (Src.at h.t).2 i hi
  have hl := h.len
  obtain ⟨⟨f, t⟩, hA⟩ : ∃ x, A[i]? = some x := ⟨A[i]'(by omega), List.getElem?_eq_getElem _⟩
  exact ⟨f, t, b1, o1, b2, o2, hA, e1, e2, c1 i _ (fro_at hA), c2 i _ (too_at hA)⟩
theorem Src.keep {k : IntKind} {w w' : World} {v : Value} {l : List Int} (h : Src k w v l) (t : Tch Non w w') : Src k w' v l := by
  rcases h with h | ⟨b, off, cap, rfl, h⟩
  · exact .inl h
  · exact .inr ⟨b, off, cap, rfl, fun i x hx => t.cell (h i x hx) (fun h => h)⟩
theorem Two.keep {w w' : World} {af at' : Option Addr} {N cf ct : Nat} {A : List (Nat × Nat)} (h : Two w af at' N cf ct A) (t : Tch Non w w') : Two w' af at' N cf ct A := ⟨Src.keep h.f t, Src.keep h.t t⟩

theorem pass_snoc {A : List (Nat × Nat)} (r : List Bool) {i : Nat} {e : Nat × Nat} (h : A[i]? = some e) : (A.take (i + 1)).foldl rel1 r = rel1 ((A.take i).foldl rel1 r) e := by
  have : A.take (i + 1) = A.take i ++ [e] := by rw [List.take_add_one, h]; rfl
  rw [this, List.foldl_append]; rfl
theorem rel1_no1 {r : List Bool} {f t : Nat} (h : r.getD f false = false) : rel1 r (f, t) = r := by
  unfold rel1; rw [if_neg]; simp only [h]; simp
theorem rel1_no2 {r : List Bool} {f t : Nat} (h : ¬ t % 2 = 0) : rel1 r (f, t) = r := by
  unfold rel1; rw [if_neg (fun e => h e.2)]
theorem rel1_yes {r : List Bool} {f t : Nat} (h : r.getD f false = true) (ht : t % 2 = 0) : rel1 r (f, t) = r.set t true := by
  unfold rel1; rw [if_pos ⟨h, ht⟩]
theorem foldl_length (A : List (Nat × Nat)) (r : List Bool) : (A.foldl rel1 r).length = r.length := (pass_le A r).1.symm

set_option maxRecDepth 10000 in
set_option maxHeartbeats 1000000 in
theorem reach_any (P N cf ct y x : Nat) (af at' : Option Addr) (A : List (Nat × Nat)) (w : World) (hP : P ≤ 1000) (hN : N ≤ 100000) (h : Two w af at' N cf ct A) (hA : ∀ a b, (a, b) ∈ A → a < P ∧ b < P) (hy : y < P) (hx : x < P) :
    Calls Ybad.prog 14 #[.int .i32 (P : Int), .slice af N cf, .slice at' N ct, .int .i32 (y : Int), .int .i32 (x : Int)] w fun e w' => e = .returned (.bool ((iter A (init P y) P).getD x false)) ∧ Tch Non w w' := by
  obtain ⟨i0, hi, hz0, hz1, hz2⟩ := info_parts info4
  have H := hide h
  have HA := hide hA
  clear h hA
  go_enter Ybad.func14, Ybad.ntmps14
  go_upto_region 2 with (refine wpList_make_full _ rfl (.tmp 14) (.tmp 14) 47 rfl w.heap.size 4 i0 (.bool false) 1 Ybad.underlying47 hi hz0 hz1 .i32 .i32 _ _ P rfl rfl rfl rfl (by rw [hz2]; omega) (by unfold maxLen; omega) (Nat.le_refl _) ?_; intro w1 hown1 hgr1)
  have o1 := OwnB.made hown1
  have t1 : Tch Non w w1 := (Tch.refl _ _).of_grownBy hgr1 (by simp)
  have c1 : w1.cell? ⟨w.heap.size, y, none⟩ = some (.bool false) := o1.cell (by rw [List.getElem?_replicate, if_pos hy])
  have f1 := o1.frozen y
  have o2 := o1.set y true
  have t2 := t1.setCell (p := ⟨w.heap.size, y, none⟩) (.inr (Nat.le_refl _)) (.bool true)
  have O2 := hide o2
  have T2 := hide t2
  clear hown1 hgr1 o1 t1 o2 t2
  go_wp2_with fail
  generalize hG : w1.setCell ⟨w.heap.size, y, none⟩ (.bool true) = w2 at *
  clear hG c1 f1 w1
  have HG : Hid (w.heap.size = w.heap.size) := rfl
  generalize hg : w.heap.size = g at *
  have Hg := hide hg
  clear hg HG
  go_loopw [12] (fun t wr => ∃ k : Nat, k ≤ P ∧ t = .int .i32 k ∧ OwnB wr g (.slice (some ⟨g, 0, none⟩) P P) (iter A (init P y) k) ∧ Tch Non w wr) (fun t _ => P - (intOf t).toNat)
  case atStart => exact ⟨0, Nat.zero_le _, rfl, O2.out, T2.out⟩
  case round =>
    clear O2 T2
    obtain ⟨k, hk, rfl, q1, q2⟩ := hrel
    by_cases hlt : k < P
    · have Q1 := hide q1
      have Q2 := hide q2
      clear q1 q2
      generalize hr0 : iter A (init P y) k = r0 at *
      have HR0 := hide hr0
      clear hr0
      go_wp2_with fail
      go_loopw [26] (fun t wr2 => ∃ j : Nat, j ≤ N ∧ t = .int .i64 j ∧ OwnB wr2 g (.slice (some ⟨g, 0, none⟩) P P) ((A.take j).foldl rel1 r0) ∧ Tch Non w wr2) (fun t _ => N - (intOf t).toNat)
      case atStart => exact ⟨0, Nat.zero_le _, rfl, Q1.out, Q2.out⟩
      case round =>
        clear Q1 Q2
        obtain ⟨j, hj, rfl, q1, q2⟩ := hrel
        by_cases hjn : j < N
        · obtain ⟨f, t, b1, o1, b2, o2, hAj, e1, e2, cf', ct'⟩ := (Two.keep H.out q2).get hjn
          subst e1 e2
          have hps := pass_snoc r0 hAj
          obtain ⟨hfP, htP⟩ := HA.out f t (List.mem_of_getElem? hAj)
          have hlen := q1.len
          obtain ⟨bf, hbf⟩ : ∃ b, ((A.take j).foldl rel1 r0)[f]? = some b := ⟨_, List.getElem?_eq_getElem (by rw [hlen]; exact hfP)⟩
          obtain ⟨bt, hbt⟩ : ∃ b, ((A.take j).foldl rel1 r0)[t]? = some b := ⟨_, List.getElem?_eq_getElem (by rw [hlen]; exact htP)⟩
          have cbf := q1.cell hbf
          have cbt := q1.cell hbt
          have fz := q1.frozen t
          have hS := q1.set t true
          have hT := q2.setCell (p := ⟨g, t, none⟩) (.inr (Nat.le_of_eq Hg.out)) (.bool true)
          have hgD : ((A.take j).foldl rel1 r0).getD f false = bf := by rw [List.getD_eq_getElem?_getD, hbf]; rfl
          have Q1 := hide q1
          have Q2 := hide q2
          have HPS := hide hps
          have HSS := hide hS
          have HTT := hide hT
          have HGD := hide hgD
          clear hAj hps hlen hbf hbt q1 q2 hS hT hgD
          cases bf with
          | false =>
            go_wp2_with fail
            go_roundw
            case rel => exact ⟨j + 1, by omega, by go_num, by rw [HPS.out, rel1_no1 HGD.out]; exact Q1.out, Q2.out⟩
            case measure => simp [intOf]; omega
          | true =>
            by_cases hev : t % 2 = 0
            · have hb2 : (((t : Int) % 2) == 0) = true := by simp; omega
              go_wp2_with fail
              go_roundw
              case rel => exact ⟨j + 1, by omega, by go_num, by rw [HPS.out, rel1_yes HGD.out hev]; exact HSS.out, HTT.out⟩
              case measure => simp [intOf]; omega
            · have hb2 : (((t : Int) % 2) == 0) = false := by simp; omega
              go_wp2_with fail
              go_roundw
              case rel => exact ⟨j + 1, by omega, by go_num, by rw [HPS.out, rel1_no2 hev]; exact Q1.out, Q2.out⟩
              case measure => simp [intOf]; omega
        · have hjA : A.take j = A := List.take_of_length_le (by rw [H.out.len]; omega)
          rw [hjA] at q1
          have Q1 := hide q1
          have Q2 := hide q2
          clear q1 q2 hjA
          go_wp2_with fail
          go_roundw
          case rel => exact ⟨k + 1, by omega, by go_num, by show OwnB _ g _ (pass A (iter A (init P y) k)); rw [HR0.out]; exact Q1.out, Q2.out⟩
          case measure => simp [intOf]; omega
    · obtain rfl : k = P := by omega
      obtain ⟨bx, hbx⟩ : ∃ b, (iter A (init k y) k)[x]? = some b := ⟨_, List.getElem?_eq_getElem (by rw [q1.len]; exact hx)⟩
      have cbx := q1.cell hbx
      have hgD : (iter A (init k y) k).getD x false = bx := by rw [List.getD_eq_getElem?_getD, hbx]; rfl
      have HGD := hide hgD
      have Q2 := hide q2
      clear q1 q2 hbx hgD
      go_wp2_with fail
      go_ret
      exact ⟨by rw [HGD.out]; rfl, Q2.out⟩

theorem reach_iff (P N cf ct y x : Nat) (af at' : Option Addr) (A : List (Nat × Nat)) (w : World) (hP : P ≤ 1000) (hN : N ≤ 100000) (h : Two w af at' N cf ct A) (hA : ∀ a b, (a, b) ∈ A → a < P ∧ b < P) (hy : y < P) (hx : x < P) :
    Calls Ybad.prog 14 #[.int .i32 (P : Int), .slice af N cf, .slice at' N ct, .int .i32 (y : Int), .int .i32 (x : Int)] w fun e w' => ∃ b, e = .returned (.bool b) ∧ (b = true ↔ R A y x) ∧ Tch Non w w' := by
  refine (reach_any P N cf ct y x af at' A w hP hN h hA hy hx).mono fun e w' ⟨h1, h2⟩ => ⟨_, h1, ?_, h2⟩
  rw [← relax_iff A P y x hA hy hx, List.getD_eq_getElem?_getD]
  cases hc : (iter A (init P y) P)[x]? with
  | none => simp
  | some b => cases b <;> simp

theorem reach_at (Pi yi xi : Int) (P N cf ct y x : Nat) (eP : Pi = (P : Int)) (ey : yi = (y : Int)) (ex : xi = (x : Int)) (af at' : Option Addr) (A : List (Nat × Nat)) (w : World) (hP : P ≤ 1000) (hN : N ≤ 100000) (h : Two w af at' N cf ct A) (hA : ∀ a b, (a, b) ∈ A → a < P ∧ b < P) (hy : y < P) (hx : x < P) :
    Calls Ybad.prog 14 #[.int .i32 Pi, .slice af N cf, .slice at' N ct, .int .i32 yi, .int .i32 xi] w fun e w' => ∃ b, e = .returned (.bool b) ∧ (b = true ↔ R A y x) ∧ Tch Non w w' := by
  subst eP ey ex
  exact reach_iff P N cf ct y x af at' A w hP hN h hA hy hx

/-- Some arc crosses from 2u to a twin whose first place reaches 2u. -/
def roundP (A : List (Nat × Nat)) (u : Nat) : Prop := ∃ q, (2 * u, q) ∈ A ∧ q % 2 = 1 ∧ R A (q - 1) (2 * u)

set_option maxRecDepth 10000 in
set_option maxHeartbeats 1000000 in
theorem round_any (n N cf ct u : Nat) (af at' : Option Addr) (A : List (Nat × Nat)) (w : World) (hn : n ≤ 100) (hN : N ≤ 100000) (h : Two w af at' N cf ct A) (hA : ∀ a b, (a, b) ∈ A → a < 2 * n ∧ b < 2 * n) (hu : u < n) :
    Calls Ybad.prog 8 #[.int .i32 (n : Int), .slice af N cf, .slice at' N ct, .int .i32 (u : Int)] w fun e w' => ∃ b, e = .returned (.bool b) ∧ (b = true ↔ roundP A u) ∧ Tch Non w w' := by
  have H := hide h
  have HA := hide hA
  clear h hA
  go_enter Ybad.func8, Ybad.ntmps8
  go_wp2_with fail
  go_loopw [15] (fun t wr => ∃ j : Nat, j ≤ N ∧ t = .int .i64 j ∧ Hid (∀ (i q : Nat), i < j → A[i]? = some (2 * u, q) → q % 2 = 1 → ¬ R A (q - 1) (2 * u)) ∧ Tch Non w wr) (fun t _ => N - (intOf t).toNat)
  case atStart => exact ⟨0, Nat.zero_le _, rfl, fun i q hi => by omega, Tch.refl _ _⟩
  case round =>
    obtain ⟨j, hj, rfl, hno, q2⟩ := hrel
    by_cases hjn : j < N
    · obtain ⟨f, t, b1, o1, b2, o2, hAj, e1, e2, cf', ct'⟩ := (Two.keep H.out q2).get hjn
      subst e1 e2
      obtain ⟨hfP, htP⟩ := HA.out f t (List.mem_of_getElem? hAj)
      have HAj := hide hAj
      have Q2 := hide q2
      clear hAj q2
      by_cases hf : f = 2 * u
      · have hfb : ((f : Int) == 2 * (u : Int)) = true := by simp; omega
        by_cases ho : t % 2 = 1
        · have hob : (((t : Int) % 2) == 1) = true := by simp; omega
          obtain ⟨t', rfl⟩ : ∃ t', t = t' + 1 := ⟨t - 1, by omega⟩
          go_wp2_with fail
          refine (reach_at _ _ _ (2 * n) N cf ct t' (2 * u) (by omega) (by omega) (by omega) _ _ A _ (by omega) hN (Two.keep H.out Q2.out) HA.out (by omega) (by omega)).mono ?_
          rintro e w2 ⟨b, rfl, hb, tb⟩
          cases b with
          | true =>
            have hR := hb.1 rfl
            have HR := hide hR
            have TB := hide tb
            clear hb tb hR
            go_wp2_with fail
            go_ret
            exact ⟨true, rfl, ⟨fun _ => ⟨t' + 1, by rw [← hf]; exact List.mem_of_getElem? HAj.out, ho, HR.out⟩, fun _ => rfl⟩, Q2.out.also TB.out⟩
          | false =>
            have hR : ¬ R A t' (2 * u) := fun h => by cases hb.2 h
            have HR := hide hR
            have TB := hide tb
            clear hb tb hR
            go_wp2_with fail
            go_roundw
            case rel =>
              refine ⟨j + 1, by omega, by go_num, fun i q hi hq ho' => ?_, Q2.out.also TB.out⟩
              by_cases e : i = j
              · subst e
                rw [HAj.out] at hq
                cases hq
                exact HR.out
              · exact hno.out i q (by omega) hq ho'
            case measure => simp [intOf]; omega
        · have hob : (((t : Int) % 2) == 1) = false := by simp; omega
          go_wp2_with fail
          go_roundw
          case rel =>
            refine ⟨j + 1, by omega, by go_num, fun i q hi hq ho' => ?_, Q2.out⟩
            by_cases e : i = j
            · subst e
              rw [HAj.out] at hq
              cases hq
              exact absurd ho' ho
            · exact hno.out i q (by omega) hq ho'
          case measure => simp [intOf]; omega
      · have hfb : ((f : Int) == 2 * (u : Int)) = false := by simp; omega
        go_wp2_with fail
        go_roundw
        case rel =>
          refine ⟨j + 1, by omega, by go_num, fun i q hi hq ho' => ?_, Q2.out⟩
          by_cases e : i = j
          · subst e
            rw [HAj.out] at hq
            cases hq
            exact absurd rfl hf
          · exact hno.out i q (by omega) hq ho'
        case measure => simp [intOf]; omega
    · have Q2 := hide q2
      clear q2
      go_wp2_with fail
      go_ret
      refine ⟨false, rfl, ⟨(fun h => by cases h), fun ⟨q, h1, h2, h3⟩ => ?_⟩, Q2.out⟩
      obtain ⟨i, hi⟩ := List.getElem?_of_mem h1
      exact absurd h3 (hno.out i q (by have := (List.getElem?_eq_some_iff.1 hi).1; rw [H.out.len] at this; omega) hi h2)

set_option maxRecDepth 10000 in
set_option maxHeartbeats 1000000 in
theorem first_any (n N cf ct : Nat) (af at' : Option Addr) (A : List (Nat × Nat)) (w : World) (hn : n ≤ 100) (hN : N ≤ 100000) (h : Two w af at' N cf ct A) (hA : ∀ a b, (a, b) ∈ A → a < 2 * n ∧ b < 2 * n) :
    Calls Ybad.prog 6 #[.int .i32 (n : Int), .slice af N cf, .slice at' N ct] w fun e w' => ∃ r : Nat, e = .returned (.int .i32 (r : Int)) ∧ r ≤ n ∧ (∀ u, u < r → ¬ roundP A u) ∧ (r < n → roundP A r) ∧ Tch Non w w' := by
  have H := hide h
  have HA := hide hA
  clear h hA
  go_enter Ybad.func6, Ybad.ntmps6
  go_wp2_with fail
  go_loopw [7] (fun t wr => ∃ j : Nat, j ≤ n ∧ t = .int .i32 j ∧ Hid (∀ u, u < j → ¬ roundP A u) ∧ Tch Non w wr) (fun t _ => n - (intOf t).toNat)
  case atStart => exact ⟨0, Nat.zero_le _, rfl, fun i hi => by omega, Tch.refl _ _⟩
  case round =>
    obtain ⟨j, hj, rfl, hno, q2⟩ := hrel
    have Q2 := hide q2
    clear q2
    by_cases hjn : j < n
    · go_wp2_with fail
      refine (round_any n N cf ct j af at' A _ hn hN (Two.keep H.out Q2.out) HA.out hjn).mono ?_
      rintro e w2 ⟨b, rfl, hb, tb⟩
      cases b with
      | true =>
        have hR := hb.1 rfl
        have HR := hide hR
        have TB := hide tb
        clear hb tb hR
        go_wp2_with fail
        go_ret
        exact ⟨j, rfl, hj, hno.out, fun _ => HR.out, Q2.out.also TB.out⟩
      | false =>
        have hR : ¬ roundP A j := fun h => by cases hb.2 h
        have HR := hide hR
        have TB := hide tb
        clear hb tb hR
        go_wp2_with fail
        go_roundw
        case rel =>
          refine ⟨j + 1, by omega, by go_num, fun u hu => ?_, Q2.out.also TB.out⟩
          by_cases e : u = j
          · subst e; exact HR.out
          · exact hno.out u (by omega)
        case measure => simp [intOf]; omega
    · obtain rfl : j = n := by omega
      go_wp2_with fail
      go_ret
      exact ⟨j, rfl, Nat.le_refl _, hno.out, fun h => absurd h (by omega), Q2.out⟩
end Go.Proofs.YbulkaxcDoor.Fst
