/-
  heldArcs$1 (21), heldHeads$1 (25), and sort.Slice at them.
-/
import Derived.Test.YbulkaxcKn
import Derived.Shelf.GgSortFunc.Whole
import Derived.Shelf.GgSortFunc.Tiny
import Derived.Shelf.Lay
import Derived.Ground.GgsProg
namespace Go.Proofs
open Go.Shelf
shelf_lay LaysGg.n6 Ggs 6 at Yba as Yba.sl6
end Go.Proofs

namespace Go.Proofs.Ybulkaxc.So
open Go Go.Shelf Go.RowKit Go.Lib Go.Sort Go.Proofs.Ybulkaxc.M2 Go.Proofs.Ybulkaxc.Cm Go.Proofs.Ybulkaxc.Kn
set_option linter.unusedVariables false

theorem info23d : (Yba.prog.info? 23).map (fun i => i.desc) = some (.slice 21) := by kernel_rfl
theorem info21p : (Yba.prog.info? 21).map (fun i => (i.hasPointers, i.bytes, i.size)) = some (false, 4, 1) := by kernel_rfl
theorem ie_ex : ∃ ie, Yba.prog.info? 21 = some ie ∧ ie.hasPointers = false ∧ ie.bytes = 4 ∧ ie.size = 1 := by
  have h := info21p
  cases h2 : Yba.prog.info? 21 with
  | none => rw [h2] at h; simp at h
  | some ie =>
    rw [h2] at h
    simp at h
    exact ⟨ie, rfl, h.1, h.2.1, h.2.2⟩
theorem it_ex : ∃ i, Yba.prog.info? 23 = some i ∧ i.desc = .slice 21 := by
  have h := info23d
  cases h2 : Yba.prog.info? 23 with
  | none => rw [h2] at h; simp at h
  | some i =>
    rw [h2] at h
    simp at h
    exact ⟨i, rfl, h⟩
theorem siK {ie : TypeInfo} (a : ie.hasPointers = false) (b : ie.bytes = 4) (n : Nat) (h2 : 2 ≤ n) : Lib.swapperK n ie 5 = 6 := by
  have c : (n == 0) = false := by simp; omega
  have d : (n == 1) = false := by simp; omega
  simp [Lib.swapperK, a, b, c, d]

/-- What heldArcs$1 and heldHeads$1 read, where nothing of it turns: the box of the repairer, its positions (all 0), the key's writers. -/
structure Lw (W : World) (b4 grp gpo nn : Nat) : Prop where
  bx : W.cell? ⟨b4, 0, none⟩ = some (.pointer (some ⟨grp, 0, none⟩))
  po : W.cell? ⟨grp, 2, none⟩ = some (.slice (some ⟨gpo, 0, none⟩) nn nn)
  at_ : ∀ x, x < nn → W.cell? ⟨gpo, x, none⟩ = some (.int .i64 0)
theorem Lw.keep {w w' : World} {b4 grp gpo nn : Nat} (h : Lw w b4 grp gpo nn) (t : Tch Non w w') : Lw w' b4 grp gpo nn :=
  ⟨t.cell h.bx (fun h => h), t.cell h.po (fun h => h), fun x hx => t.cell (h.at_ x hx) (fun h => h)⟩

set_option maxHeartbeats 400000 in
theorem rank_any (W : World) (b4 grp gpo nn x : Nat) (h : Lw W b4 grp gpo nn) (hx : x < nn) (hnn : nn ≤ 100) : Calls Yba.prog 21 #[.int .i32 (x : Int), .pointer (some ⟨b4, 0, none⟩)] W fun e w' => e = .returned (.int .i64 0) ∧ w' = W := by
  have c1 := h.bx
  have c2 := h.po
  have c3 := h.at_ x hx
  have e1 : (x : Int) < (nn : Int) := by omega
  clear h
  go_enter Yba.func21, Yba.ntmps21
  go_wp2_with fail
  go_ret
  exact ⟨rfl, rfl⟩

set_option maxRecDepth 10000 in
set_option maxHeartbeats 1000000 in
theorem less_any (W : World) (b4 grp gpo nn b7 b11 b13 gk ko gR n cR i j : Nat) (aw : Option Addr) (nw cw : Nat) (h : Lw W b4 grp gpo nn) (hnn : nn ≤ 100) (hnw : nw ≤ 100)
    (c7 : W.cell? ⟨b7, 0, none⟩ = some (.func (.func 21) #[] #[.pointer (some ⟨b4, 0, none⟩)])) (c11 : W.cell? ⟨b11, 0, none⟩ = some (.pointer (some ⟨gk, ko, none⟩))) (c13 : W.cell? ⟨b13, 0, none⟩ = some (.slice (some ⟨gR, 0, none⟩) n cR))
    (ck : W.cell? ⟨gk, ko + 1, none⟩ = some (.slice aw nw cw)) (ws : List Nat) (hw : Src .i32 W (.slice aw nw cw) (castN ws)) (hws : ∀ x ∈ ws, x < nn) (hwl : ws.length = nw)
    (pi pj : Nat) (hpi : pi < nw) (hpj : pj < nw) (ci : W.cell? ⟨gR, i, none⟩ = some (.int .i32 (pi : Int))) (cj : W.cell? ⟨gR, j, none⟩ = some (.int .i32 (pj : Int))) (hi : i < n) (hj : j < n) (hn : n ≤ 100) :
    Calls Yba.prog 25 #[.int .i64 (i : Int), .int .i64 (j : Int), .pointer (some ⟨b7, 0, none⟩), .pointer (some ⟨b11, 0, none⟩), .pointer (some ⟨b13, 0, none⟩)] W fun e w' => e = .returned (.bool false) ∧ ∃ q, w' = W.drewN q := by
  obtain ⟨xi, hxi⟩ : ∃ x, ws[pi]? = some x := ⟨ws[pi]'(by omega), List.getElem?_eq_getElem _⟩
  obtain ⟨xj, hxj⟩ : ∃ x, ws[pj]? = some x := ⟨ws[pj]'(by omega), List.getElem?_eq_getElem _⟩
  have li := hws xi (List.mem_of_getElem? hxi)
  have lj := hws xj (List.mem_of_getElem? hxj)
  obtain ⟨gw, ow, rfl, cwi⟩ := Src.at' hw (castN_get hxi)
  obtain ⟨gw', ow', e, cwj⟩ := Src.at' hw (castN_get hxj)
  cases e
  have HR := hide (fun (k x : Nat) (hx : x < nn) => rank_any (W.drewN k) b4 grp gpo nn x (h.keep ⟨rfl, rfl, rfl, Nat.le_refl _, fun _ _ _ => rfl⟩) hx hnn)
  clear hw h hxi hxj hws
  have e1 : (i : Int) < (n : Int) := by omega
  have e2 : (j : Int) < (n : Int) := by omega
  have e3 : (pi : Int) < (nw : Int) := by omega
  have e4 : (pj : Int) < (nw : Int) := by omega
  go_enter Yba.func25, Yba.ntmps25
  go_upto_region 1 with fail
  go_quiet ((go_at_call 21; exact Calls.quiet_of_same (HR.out _ _ (by assumption))))
  go_wp2_with fail
  go_ret
  exact ⟨rfl, nq, rfl⟩

/-- How the sort leaves the world: one block written, new blocks. -/
theorem grow_tch {α : Type} [Inhabited α] (enc : α → Value) (w : World) (k blk off : Nat) (d : Array α) (os : Array Obj) : Tch (fun x => x = blk) w (grow (putRow enc (Sort.ahead w k) blk off d) os) := by
  refine ⟨rfl, rfl, rfl, ?_, fun i hi hn => ?_⟩
  · rw [size_grow]
    have : (putRow enc (Sort.ahead w k) blk off d).heap.size = w.heap.size := by simp [putRow, mapBlock, Sort.ahead]
    omega
  · rw [heap_grow_old _ _ (by simp [putRow, mapBlock, Sort.ahead]; exact hi)]
    simp only [putRow, mapBlock, Sort.ahead, Array.getElem?_modify]
    rw [if_neg (fun e => hn e.symm)]
theorem grow_tch0 (w : World) (os : Array Obj) : Tch Non w (grow w os) :=
  ⟨rfl, rfl, rfl, by rw [size_grow]; omega, fun i hi _ => heap_grow_old _ _ hi⟩
/-- The row behind the sort. -/
theorem grow_own {α : Type} [Inhabited α] (f : α → Nat) {w : World} {B blk n c k : Nat} {l : List Int} (h : Own .i32 21 w B (.slice (some ⟨blk, 0, none⟩) n c) l) (d : Array α) (hd : d.size = n) (os : Array Obj) :
    Own .i32 21 (grow (putRow (fun x => Value.int .i32 (f x : Int)) (Sort.ahead w k) blk 0 d) os) B (.slice (some ⟨blk, 0, none⟩) n c) (d.toList.map (fun x => (f x : Int))) := by
  have hn := h.len
  rcases h.2 with ⟨hv, _⟩ | ⟨g', cap', cur, hv, hb, hg, h1, h2, h3, h4⟩
  · cases hv
  · cases hv
    have hl : (d.toList.map (fun x => (f x : Int))).length = l.length := by simp [hd]
    have hlt : blk < w.heap.size := (Array.getElem?_eq_some_iff.1 hg).1
    refine ⟨by simp, .inr ⟨blk, c, putCells (fun x => Value.int .i32 (f x : Int)) 0 d cur, by rw [hl], hb, ?_, by rw [hl]; omega, h2, by simp [putCells]; omega, ?_⟩⟩
    · rw [heap_grow_old _ _ (by simp [putRow, mapBlock, Sort.ahead]; exact hlt)]
      simp only [putRow, mapBlock, Sort.ahead, Array.getElem?_modify]
      rw [hg]
      rfl
    · rw [hl, Nat.mul_one]
      apply List.ext_getElem?
      intro i
      rw [List.getElem?_take]
      by_cases hi : i < l.length
      · rw [if_pos hi]
        have hic : i < cur.size := by rw [h3]; omega
        simp [putCells, hic, hd, hi]
      · rw [if_neg hi]
        have : (List.map (Value.int IntKind.i32) (d.toList.map (fun x => (f x : Int))))[i]? = none := by
          rw [List.getElem?_eq_none]
          simp [hd]; omega
        rw [this]

theorem swo_no (α : Type) : SWO (fun _ _ : α => false) := ⟨fun _ => rfl, fun _ _ _ h _ => (by cases h), fun _ _ _ _ _ => rfl⟩
theorem ofFn_get (m j : Nat) (hj : j < m + 2) : (Array.ofFn (fun i : Fin (m + 2) => i))[j]! = ⟨j, hj⟩ := by
  rw [getElem!_pos _ j (by simpa using hj)]
  simp

set_option maxHeartbeats 2000000 in
/-- sort.Slice over the positions of the key's writers: they stay positions. -/
theorem sort_any (w0 w : World) (B b4 grp gpo nn b7 b11 b13 gk ko gR n cR : Nat) (aw : Option Addr) (cw : Nat) (ws : List Nat) (t0 : Tch Non w0 w) (hgR : w0.heap.size ≤ gR) (h : Lw w0 b4 grp gpo nn) (hnn : nn ≤ 100) (hn : n ≤ 100)
    (c7 : w.cell? ⟨b7, 0, none⟩ = some (.func (.func 21) #[] #[.pointer (some ⟨b4, 0, none⟩)])) (c11 : w.cell? ⟨b11, 0, none⟩ = some (.pointer (some ⟨gk, ko, none⟩))) (c13 : w.cell? ⟨b13, 0, none⟩ = some (.slice (some ⟨gR, 0, none⟩) n cR))
    (n7 : b7 ≠ gR) (n11 : b11 ≠ gR) (n13 : b13 ≠ gR)
    (ck : w0.cell? ⟨gk, ko + 1, none⟩ = some (.slice aw n cw)) (hw : Src .i32 w0 (.slice aw n cw) (castN ws)) (hws : ∀ x ∈ ws, x < nn) (hwl : ws.length = n)
    (ho : Own .i32 21 w B (.slice (some ⟨gR, 0, none⟩) n cR) (castN (List.range n))) :
    Calls Yba.prog 24 #[.iface 23 (.slice (some ⟨gR, 0, none⟩) n cR), .func (.func 25) #[] #[.pointer (some ⟨b7, 0, none⟩), .pointer (some ⟨b11, 0, none⟩), .pointer (some ⟨b13, 0, none⟩)]] w fun e w' =>
      e = .returned (.tuple #[]) ∧ Tch (fun x => x = gR) w w' ∧ ∃ l' : List Nat, Own .i32 21 w' B (.slice (some ⟨gR, 0, none⟩) n cR) (castN l') ∧ l'.length = n ∧ ∀ x ∈ l', x < n := by
  obtain ⟨ie, hie, hp1, hp2, hp3⟩ := ie_ex
  obtain ⟨it, hit, hd⟩ := it_ex
  have hblk : gR < w.heap.size := (ho.lt (g := gR) rfl).2
  by_cases h2 : 2 ≤ n
  · obtain ⟨m, rfl⟩ : ∃ m, n = m + 2 := ⟨n - 2, by omega⟩
    have hsz : (Array.ofFn (fun i : Fin (m + 2) => i)).size = m + 2 := by simp
    have hH : Holds (fun x : Fin (m + 2) => Value.int .i32 (x.val : Int)) w gR 0 (Array.ofFn (fun i : Fin (m + 2) => i)) := by
      intro j hj
      rw [hsz] at hj
      rw [ofFn_get m j hj, Nat.zero_add]
      refine ⟨?_, ho.frozen j⟩
      exact ho.at (castN_get (by rw [List.getElem?_range hj]))
    have hless : LessReads Yba.prog 25 #[.pointer (some ⟨b7, 0, none⟩), .pointer (some ⟨b11, 0, none⟩), .pointer (some ⟨b13, 0, none⟩)] (fun x : Fin (m + 2) => Value.int .i32 (x.val : Int)) (fun _ _ => false) gR 0 (Array.ofFn (fun i : Fin (m + 2) => i)).size w := by
      rw [hsz]
      intro k os dk hs i j hi hj
      have tt := grow_tch (fun x : Fin (m + 2) => Value.int .i32 (x.val : Int)) w k gR 0 dk os
      have oo := grow_own (k := k) (fun x : Fin (m + 2) => x.val) ho dk hs os
      have tn : Tch Non w0 (sortWorld (fun x : Fin (m + 2) => Value.int .i32 (x.val : Int)) w gR 0 k dk os) := t0.trans tt (fun x hx => .inr (by rw [hx]; exact hgR))
      have g : ∀ i, (hi : i < m + 2) → (sortWorld (fun x : Fin (m + 2) => Value.int .i32 (x.val : Int)) w gR 0 k dk os).cell? ⟨gR, i, none⟩ = some (.int .i32 (((dk[i]'(by omega)).val : Nat) : Int)) := by
        intro i hi
        refine oo.at ?_
        rw [List.getElem?_map]
        have : dk.toList[i]? = some (dk[i]'(by omega)) := by simp [hs, hi]
        rw [this]
        rfl
      exact less_any _ b4 grp gpo nn b7 b11 b13 gk ko gR (m + 2) cR i j aw (m + 2) cw (h.keep tn) hnn hn (tt.cell c7 n7) (tt.cell c11 n11) (tt.cell c13 n13) (tn.cell ck (fun h => h)) ws (Kn.Src.keep hw tn) hws hwl _ _ (dk[i]'(by omega)).isLt (dk[j]'(by omega)).isLt (g i hi) (g j hj) hi hj hn
    have hS := Any.sort_Slice_sorted Yba.sl6 23 21 it ie hit hd (by kernel_rfl) hie 5 (fun _ => by kernel_rfl) hp3 (fun _ => by kernel_rfl) (fun x : Fin (m + 2) => Value.int .i32 (x.val : Int)) (fun _ => rfl) (fun _ _ => false) (swo_no _) 25 _
      (enters_of Yba.func25 (by kernel_rfl) rfl) gR 0 cR (Array.ofFn (fun i : Fin (m + 2) => i)) (by rw [hsz]; exact h2) (by rw [hsz]; omega) 36 (by rw [siK hp1 hp2 _ (by rw [hsz]; exact h2)]; kernel_rfl) true
      (fun args W => run_callFunc_extern Yba.func36 (by kernel_rfl) (by kernel_rfl) (by kernel_rfl) (e := Extern.ReflectliteSwapper.swap true) (by kernel_rfl) args W) w hless hH hblk
    rw [hsz] at hS
    change Calls Yba.prog 24 _ _ _ at hS
    refine hS.mono ?_
    rintro e w' ⟨rfl, d', k, os, hp, _, rfl⟩
    have hs' : d'.size = m + 2 := by rw [hp.1, hsz]
    refine ⟨rfl, grow_tch _ w k gR 0 d' os, d'.toList.map (fun x => x.val), ?_, by simp [hs'], fun x hx => ?_⟩
    · have oo := grow_own (k := k) (fun x : Fin (m + 2) => x.val) ho d' hs' os
      have e : castN (d'.toList.map (fun x => x.val)) = d'.toList.map (fun x => ((x.val : Nat) : Int)) := by unfold castN; rw [List.map_map]; rfl
      rw [e]
      exact oo
    · rw [List.mem_map] at hx
      obtain ⟨y, _, rfl⟩ := hx
      exact y.isLt
  · have hK : Lib.swapperK n ie 5 = n + 1 := by
      rcases Nat.eq_zero_or_pos n with h | h
      · subst h; simp [Lib.swapperK]
      · obtain rfl : n = 1 := by omega
        simp [Lib.swapperK]
    have hS := Any.sort_Slice_tiny Yba.sl6 23 21 it ie hit hd (by kernel_rfl) hie 5 (fun _ => by kernel_rfl) (some ⟨gR, 0, none⟩) n cR (by omega) (31 + n) (by
      rw [hK]
      rcases Nat.eq_zero_or_pos n with h | h
      · subst h; kernel_rfl
      · obtain rfl : n = 1 := by omega
        kernel_rfl) (.func 25) #[] #[.pointer (some ⟨b7, 0, none⟩), .pointer (some ⟨b11, 0, none⟩), .pointer (some ⟨b13, 0, none⟩)] w
    change Calls Yba.prog 24 _ _ _ at hS
    refine hS.mono ?_
    rintro e w' ⟨rfl, os, rfl⟩
    exact ⟨rfl, (grow_tch0 w os).non, List.range n, ho.keep (grow_tch0 w os), by simp, fun x hx => List.mem_range.1 hx⟩
end Go.Proofs.Ybulkaxc.So
