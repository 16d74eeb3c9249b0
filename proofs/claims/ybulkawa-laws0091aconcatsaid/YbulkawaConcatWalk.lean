/-
  LawS0091AConcat: the plain facts and the walk.
-/
import Derived.Test.YbulkawaRows
import Derived.WalkKit
import Derived.OpenShut
import Derived.Below
import Derived.Laws.IdiomStrings
import Derived.Test.YbulkawaDigits
namespace Go.Proofs.Ybulkawa.lawS0091AConcat
open Go.RowKit
open Go.Proofs.Ybulkawa.Digits

/-- WHAT THE WALK IS TOLD OF A SLICE OF INTEGERS THAT CAME IN: it is nil; or it leads to a row of 'cap' cells, the numbers 'zs' (the first 'len' are its elements, the rest its spare room), each fitting its kind. -/
def IsRow (k : IntKind) (w : World) (a : Option Addr) (len cap : Nat) (zs : List Int) : Prop :=
  (a = none ∧ len = 0 ∧ cap = 0 ∧ zs = []) ∨
  ∃ x, a = some x ∧ len ≤ cap ∧ cap ≤ maxLen ∧ zs.length = cap ∧ (∀ i, i < zs.length → w.cell? (x.add i) = some (.int k (zs.getD i 0))) ∧ ∀ n ∈ zs, (Lit.int k n).wf = true

theorem Yba.info5 : (Yba.prog.info? 5).map (fun i => (i.zero, i.size, i.bytes)) = some (some (.int .u8 0), 1, 1) := by kernel_rfl

/-- The digit that the law lays at place j. -/
def dg (zs : List Int) (j : Nat) : Int := 48 + zs.getD j 0 % 10
/-- The bytes of the digit prefix. -/
def pre (zs : List Int) (n : Nat) : List UInt8 := (List.range n).map fun j => UInt8.ofNat (dg zs j).toNat

theorem pre_length (zs : List Int) (n : Nat) : (pre zs n).length = n := by simp [pre]
theorem dg_range (zs : List Int) (j : Nat) : 48 ≤ dg zs j ∧ dg zs j ≤ 57 := by unfold dg; omega
theorem pre_digits (zs : List Int) (n : Nat) : ∀ c ∈ pre zs n, isD c = true := by
  intro c hc
  simp only [pre, List.mem_map] at hc
  obtain ⟨j, _, rfl⟩ := hc
  have := dg_range zs j
  have e : (UInt8.ofNat (dg zs j).toNat).toNat = (dg zs j).toNat := by
    rw [UInt8.toNat_ofNat']; omega
  exact isD_yes (by rw [e]; omega) (by rw [e]; omega)

/-- 'string(b)' behind the loop. -/
theorem conv_at {w : World} {B n : Nat} {xs : List Value} (zs : List Int) (ho : w.ownsRow B 5 1 (.slice (some ⟨B, 0, none⟩) n n) n xs) (h : ∀ j, j < n → xs[j]? = some (.int .u8 (dg zs j))) :
    (convert 24 9 (.slice (some ⟨B, 0, none⟩) n n)).run Yba.prog w = .ok (.string ⟨(pre zs n).toArray⟩) w := by
  have := run_convert_bytes_back (P := Yba.prog) w 24 9 5 ⟨B, 0, none⟩ n (pre zs n) Yba.underlying24 Yba.underlying5 Yba.underlying9 (by
    intro j hj
    rw [pre_length] at hj
    have := ho.cellAt j (by omega)
    have e : ((⟨B, 0, none⟩ : Addr).add j) = ⟨B, j, none⟩ := by rw [Go.WideShapes.add_plain, Nat.zero_add]
    rw [e, this, h j hj]
    have r := dg_range zs j
    have e2 : (UInt8.ofNat (dg zs j).toNat).toNat = (dg zs j).toNat := by rw [UInt8.toNat_ofNat']; omega
    simp only [pre, List.getElem_map, List.getElem_range, e2]
    congr 2
    omega)
  rw [pre_length] at this
  exact this

/-- Behind k rounds: the call's own row holds the digits at its first k places. -/
def Rel (B n : Nat) (zs : List Int) (k : Nat) (w : World) : Prop :=
  ∃ xs, w.ownsRow B 5 1 (.slice (some ⟨B, 0, none⟩) n n) n xs ∧ xs.length = n ∧ ∀ j, j < k → xs[j]? = some (.int .u8 (dg zs j))

theorem start {w : World} {B n : Nat} {zs : List Int} (h : w.ownsRow B 5 1 (.slice (some ⟨B, 0, none⟩) n n) n (madeCells (Value.int .u8 0).cells (n * 1)).toList) : Rel B n zs 0 w :=
  ⟨_, h, by simp [madeCells], by omega⟩
theorem Rel.frozen {w : World} {B n k : Nat} {zs : List Int} (h : Rel B n zs k w) (j : Nat) : w.frozen? ⟨B, j, none⟩ = false := by
  obtain ⟨xs, h, _⟩ := h
  exact h.frozenAt j
theorem Rel.cell {w : World} {B n k : Nat} {zs : List Int} (h : Rel B n zs k w) {j : Nat} (hj : j < n) : ∃ u, w.cell? ⟨B, j, none⟩ = some u := by
  obtain ⟨xs, h, hl, _⟩ := h
  exact ⟨xs[j], by rw [h.cellAt j (by omega)]; exact List.getElem?_eq_getElem _⟩
theorem Rel.step {w : World} {B n k : Nat} {zs : List Int} (h : Rel B n zs k w) (hk : k < n) {v : Value} (hv : v = .int .u8 (dg zs k)) : Rel B n zs (k + 1) (w.setCell ⟨B, k, none⟩ v) := by
  obtain ⟨xs, h, hl, hx⟩ := h
  refine ⟨_, (h.stored k v).1, by simpa using hl, fun j hj => ?_⟩
  rw [List.getElem?_set]
  split
  · rename_i e
    rw [if_pos (by omega), hv, e]
  · exact hx j (by omega)
theorem row_at {w : World} {a : Option Addr} {len cap k : Nat} {zs : List Int} (h : IsRow .u8 w a len cap zs) (hk : k < len) :
    ∃ b off, a = some ⟨b, off, none⟩ ∧ w.cell? ⟨b, off + k, none⟩ = some (.int .u8 (zs.getD k 0)) ∧ 0 ≤ zs[k]?.getD 0 ∧ zs[k]?.getD 0 ≤ 255 := by
  rcases h with ⟨_, h, _⟩ | ⟨x, ha, hlc, _, hz, hc, hw⟩
  · omega
  · obtain ⟨b, off, rfl, hc'⟩ := ints_at hc (by omega)
    refine ⟨b, off, ha, hc' k (by omega), ?_⟩
    have hm : zs.getD k 0 ∈ zs := by
      rw [List.getD_eq_getElem?_getD, List.getElem?_eq_getElem (by omega), Option.getD_some]
      exact List.getElem_mem _
    have := bounds_u8 (hw _ hm)
    rwa [List.getD_eq_getElem?_getD] at this

theorem Rel.conv {w : World} {B n k : Nat} {zs : List Int} (h : Rel B n zs k w) (hk : k = n) : ∃ p : ByteArray, (convert 24 9 (.slice (some ⟨B, 0, none⟩) n n)).run Yba.prog w = .ok (.string p) w ∧ p.data.toList = pre zs n := by
  obtain ⟨xs, h, hl, hx⟩ := h
  subst hk
  exact ⟨_, conv_at zs h hx, by simp⟩
theorem facts1 {p t : ByteArray} (h : ∀ c ∈ p.data.toList, isD c = true) : (cd (p ++ t).data.toList : Nat) = p.size + cd t.data.toList := by
  rw [ByteArray.data_append, Array.toList_append, cd_append h]
  simp
theorem facts2 {p : ByteArray} (h : ∀ c ∈ p.data.toList, isD c = true) : (cd p.data.toList : Nat) = p.size := by
  rw [cd_all h]
  simp

theorem hide {p : Prop} (h : p) : Hid p := h
theorem unhide {p : Prop} (h : Hid p) : p := h
theorem count_is (s : ByteArray) (w : World) {n : Int} (h : ((cd s.data.toList : Nat) : Int) = n) (hs : s.size ≤ maxLen) :
    Calls Yba.prog 7 #[.string s] w fun e w' => e = .returned (.int .i64 n) ∧ w' = w := by
  have := count_any s w hs
  rwa [h] at this

set_option maxHeartbeats 400000 in
theorem walk (a0 : Option Addr) (len0 cap0 : Nat) (z0 : List Int) (a1 : ByteArray) (w : World) (w0 : IsRow .u8 w a0 len0 cap0 z0) (w1 : a1.size ≤ maxLen) :
    Calls Yba.prog 4 #[.slice a0 len0 cap0, .string a1] w fun e w' => e = .returned (.bool true) ∧ Below w.heap.size w w' := by
  have W0 : Hid (IsRow .u8 w a0 len0 cap0 z0) := w0
  obtain ⟨i0, hi, hz0, hz1, hz2⟩ := info_parts Yba.info5
  have hl0 : len0 ≤ maxLen := by
    rcases w0 with ⟨_, h, _⟩ | ⟨_, _, h, h', _⟩ <;> omega
  clear w0
  have w1' := w1
  unfold maxLen at hl0 w1'
  by_cases hb1 : (1024 : Int) < (len0 : Int)
  · go_enter Yba.func4, Yba.ntmps4
    go_wp2
    go_ret
    exact ⟨rfl, Below.refl _ _⟩
  by_cases hb2 : (1024 : Int) < (a1.size : Int)
  · go_enter Yba.func4, Yba.ntmps4
    go_wp2
    go_ret
    exact ⟨rfl, Below.refl _ _⟩
  go_enter Yba.func4, Yba.ntmps4
  go_wp2_with (refine wpList_make_full _ rfl (.tmp 18) (.tmp 18) 24 rfl w.heap.size 5 i0 (.int .u8 0) 1 Yba.underlying24 hi hz0 hz1 .i64 .i64 _ _ len0 rfl rfl rfl rfl (by rw [hz2]; omega) (by unfold maxLen; omega) (Nat.le_refl _) ?_; intro wm hown hgr)
  have R0 := start (zs := z0) hown
  have hb0 : Below w.heap.size w wm := (Below.refl _ _).grown hgr (Nat.le_refl _) (by simp)
  clear hown hgr
  go_loopw [6] (fun i wr => ∃ k : Nat, k ≤ len0 ∧ i = .int .i64 k ∧ Rel w.heap.size len0 z0 k wr ∧ Below w.heap.size w wr) (fun i _ => len0 - (intOf i).toNat)
  case atStart => exact ⟨0, Nat.zero_le _, rfl, R0, hb0⟩
  case round =>
    obtain ⟨k, hk, rfl, hR, hb⟩ := hrel
    clear R0 hb0
    by_cases hlt : k < len0
    · obtain ⟨b, off, rfl, hc, hn⟩ := row_at W0.out hlt
      have hcx := (hb.cell (p := ⟨b, off + k, none⟩) (World.block_lt_of_cell? _ _ hc)).trans hc
      clear hc
      have hfz : wr.frozen? ⟨w.heap.size, k, none⟩ = false := hR.frozen k
      obtain ⟨u, hu⟩ := hR.cell hlt
      go_wp2
      go_roundw
      case rel => exact ⟨k + 1, by omega, by go_num, hR.step hlt (by simp only [dg, List.getD_eq_getElem?_getD]), hb.setCell (Nat.le_refl _) _⟩
      case measure => simp [intOf]; omega
    · obtain ⟨p, hcv, hp⟩ := hR.conv (show k = len0 by omega)
      have Hp : Hid (p.data.toList = pre z0 len0) := hp
      have hps : p.size = len0 := by
        have : p.data.toList.length = len0 := by rw [hp, pre_length]
        simpa using this
      have hps1 : (p.size : Int) ≤ 1024 := by omega
      have f1 := facts1 (p := p) (t := a1) (by rw [hp]; exact pre_digits _ _)
      have f2 := facts2 (p := p) (by rw [hp]; exact pre_digits _ _)
      have f3 := cd_le a1.data.toList
      have f3' : (cd a1.data.toList : Int) ≤ (a1.size : Int) := by simpa using f3
      have q1 := fun w => count_is (p ++ a1) w (n := (p.size : Int) + (cd a1.data.toList : Int)) (by rw [f1]; omega) (by rw [ByteArray.size_append]; unfold maxLen; omega)
      have q2 := fun w => count_is a1 w (n := (cd a1.data.toList : Int)) rfl w1
      have q3 := fun w => count_is p w (n := (p.size : Int)) (by rw [f2]) (by unfold maxLen; omega)
      have f4 : (0 : Int) ≤ (cd a1.data.toList : Int) := by omega
      have f5 : (0 : Int) ≤ (p.size : Int) := by omega
      have Q1 := hide q1
      have Q2 := hide q2
      have Q3 := hide q3
      clear hp hR hps f3 f1 f2 q1 q2 q3
      generalize ((cd a1.data.toList : Nat) : Int) = ct at *
      go_wp2_with fail
      refine (unhide Q1 _).mono ?_
      rintro e w' ⟨rfl, rfl⟩
      go_wp2_with fail
      refine (unhide Q2 _).mono ?_
      rintro e w' ⟨rfl, rfl⟩
      go_wp2_with fail
      refine (unhide Q3 _).mono ?_
      rintro e w' ⟨rfl, rfl⟩
      go_wp2_with fail
      go_ret
      exact ⟨by simp, hb⟩
end Go.Proofs.Ybulkawa.lawS0091AConcat
