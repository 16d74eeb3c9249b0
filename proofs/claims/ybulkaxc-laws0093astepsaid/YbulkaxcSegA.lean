/-
  LawS0093AStep: the walk from its start.
-/
import Derived.Test.YbulkaxcSegB
namespace Go.Proofs.Ybulkaxc.Seg
open Go Go.RowKit Go.Proofs.Ybulkaxc.Mem Go.Proofs.Ybulkaxc.Step Go.Proofs.Ybulkaxc.Clone
set_option linter.unusedVariables false

theorem info166 : (Yba.prog.info? 166).map (fun i => (i.zero, i.size, i.bytes)) = some (some (.agg #[.int .i8 0, .int .i8 0, .int .i8 0, .int .i8 0, .int .i8 0]), 5, 5) := by kernel_rfl

def RelA (gc T : Nat) (fs : List Nat) (w : World) (k : Nat) (wr : World) : Prop :=
  ∃ cl, Own wr gc (.slice (some ⟨gc, 0, none⟩) (T + 1) (T + 1)) cl ∧ (∀ f, f < T → cl[f]? = some (((fs.take k).count f : Nat) : Int)) ∧ Tch [] w wr

theorem relA_step {gc T k f : Nat} {fs : List Nat} {w wr : World} {cl : List Int} {o : Obj} (q1 : Own wr gc (.slice (some ⟨gc, 0, none⟩) (T + 1) (T + 1)) cl) (q2 : ∀ f, f < T → cl[f]? = some (((fs.take k).count f : Nat) : Int)) (q3 : Tch [] w wr)
    (hw : w.heap.size ≤ gc) (htl : fs[k]? = some f) (hf : f < T) : RelA gc T fs w (k + 1) ((wr.setCell ⟨gc, f, none⟩ (.int .i32 (((fs.take k).count f : Nat) + 1 : Int))).alloc o) := by
  refine ⟨_, (q1.set f _).alloc _, fun f' hf' => ?_, (q3.setCell (.inr hw) _).alloc _⟩
  rw [count_snoc htl f', List.getElem?_set]
  by_cases e : f = f'
  · rw [if_pos e, if_pos (by rw [q1.len]; omega), if_pos e, ← e]; simp
  · rw [if_neg e, if_neg e, q2 f' hf']; simp

theorem prod_bounds (x y : Int) (hx : 1 ≤ x ∧ x ≤ 3) (hy : 1 ≤ y ∧ y ≤ 3) : 1 ≤ x * y ∧ x * y ≤ 9 := by
  have h : x = 1 ∨ x = 2 ∨ x = 3 := by omega
  rcases h with rfl | rfl | rfl <;> omega

set_option maxRecDepth 100000 in
set_option maxHeartbeats 2000000 in
theorem walk_big (a0 a1 a2 a3 : Int) (m c4 n5 c5 n6 c6 n7 c7 : Nat) (a4 a5 a6 a7 : Option Addr) (w : World)
    (h4 : m ≤ maxLen) (h5 : n5 ≤ maxLen) (h6 : n6 ≤ maxLen) (h7 : n7 ≤ maxLen) (hbig : (1024 : Int) < m ∨ (1024 : Int) < n5 ∨ (1024 : Int) < n6 ∨ (1024 : Int) < n7) :
    Calls Yba.prog 3 #[.int .u8 a0, .int .u8 a1, .int .u8 a2, .int .u8 a3, .slice a4 m c4, .slice a5 n5 c5, .slice a6 n6 c6, .slice a7 n7 c7] w fun e w' => e = .returned (.bool true) ∧ Below w.heap.size w w' := by
  unfold maxLen at h4 h5 h6 h7
  by_cases b4 : (1024 : Int) < m
  · clear hbig
    go_enter Yba.func3, Yba.ntmps3
    go_wp2
    go_ret
    exact ⟨rfl, Below.refl _ _⟩
  by_cases b5 : (1024 : Int) < n5
  · clear hbig
    go_enter Yba.func3, Yba.ntmps3
    go_wp2
    go_ret
    exact ⟨rfl, Below.refl _ _⟩
  by_cases b6 : (1024 : Int) < n6
  · clear hbig
    go_enter Yba.func3, Yba.ntmps3
    go_wp2
    go_ret
    exact ⟨rfl, Below.refl _ _⟩
  have b7 : (1024 : Int) < n7 := by omega
  clear hbig
  go_enter Yba.func3, Yba.ntmps3
  go_wp2
  go_ret
  exact ⟨rfl, Below.refl _ _⟩

set_option maxRecDepth 100000 in
set_option maxHeartbeats 2000000 in
theorem walk_small (a0 a1 a2 a3 : Int) (m c4 n5 c5 n6 c6 n7 c7 : Nat) (a4 a5 a6 a7 : Option Addr) (xs : List (Nat × Nat)) (dga tka pta : List Int) (w : World)
    (r0 : 0 ≤ a0 ∧ a0 ≤ 255) (r1 : 0 ≤ a1 ∧ a1 ≤ 255) (r2 : 0 ≤ a2 ∧ a2 ≤ 255) (r3 : 0 ≤ a3 ∧ a3 ≤ 255)
    (h4 : Arcs w a4 m xs) (h5 : Src w (.slice a5 n5 c5) dga) (h6 : Src w (.slice a6 n6 c6) tka) (h7 : Src w (.slice a7 n7 c7) pta) (hdg : ∀ y ∈ dga, -2147483648 ≤ y ∧ y ≤ 2147483647)
    (o5 : dga ≠ [] → ∀ g, (Value.slice a5 n5 c5).ownBlock = some g → g < w.heap.size) (o6 : tka ≠ [] → ∀ g, (Value.slice a6 n6 c6).ownBlock = some g → g < w.heap.size) (o7 : pta ≠ [] → ∀ g, (Value.slice a7 n7 c7).ownBlock = some g → g < w.heap.size)
    (b4 : (m : Int) ≤ 1024) (b5 : (n5 : Int) ≤ 1024) (b6 : (n6 : Int) ≤ 1024) (b7 : (n7 : Int) ≤ 1024) :
    Calls Yba.prog 3 #[.int .u8 a0, .int .u8 a1, .int .u8 a2, .int .u8 a3, .slice a4 m c4, .slice a5 n5 c5, .slice a6 n6 c6, .slice a7 n7 c7] w fun e w' => e = .returned (.bool true) ∧ Below w.heap.size w w' := by
  obtain ⟨i0, hi, hz0, hz1, hz2⟩ := info_parts info21
  obtain ⟨j0, ji, jz0, jz1, jz2⟩ := info_parts info166
  have hprod := prod_bounds (1 + a0 % 3) (1 + a1 % 3) (by omega) (by omega)
  have l6 := (Src.at h6).1
  have l7 := (Src.at h7).1
  have L6 := hide l6
  have L7 := hide l7
  have H4 := hide h4
  have H5 := hide h5
  have H6 := hide h6
  have H7 := hide h7
  have HDG := hide hdg
  have HO5 := hide o5
  have HO6 := hide o6
  have HO7 := hide o7
  clear h4 h5 h6 h7 hdg o5 o6 o7 l6 l7
  have v4 : decide ((1024 : Int) < (m : Int)) = false := by simp; omega
  have v5 : decide ((1024 : Int) < (n5 : Int)) = false := by simp; omega
  have v6 : decide ((1024 : Int) < (n6 : Int)) = false := by simp; omega
  have v7 : decide ((1024 : Int) < (n7 : Int)) = false := by simp; omega
  go_enter Yba.func3, Yba.ntmps3
  go_upto_region 8 with fail
  have e17 : 1 ≤ 1 + a0 % 3 ∧ 1 + a0 % 3 ≤ 3 := by omega
  have e18 : 1 ≤ 1 + a1 % 3 ∧ 1 + a1 % 3 ≤ 3 := by omega
  have e19 : 0 ≤ a2 % 3 ∧ a2 % 3 ≤ 2 := by omega
  generalize 1 + a0 % 3 = n at *
  generalize 1 + a1 % 3 = Lz at *
  generalize a2 % 3 = np at *
  obtain ⟨L, rfl⟩ := Int.eq_ofNat_of_zero_le (show 0 ≤ Lz by omega)
  have e21 : 1 ≤ n * (L : Int) + np ∧ n * (L : Int) + np ≤ 11 ∧ n * (L : Int) ≤ n * (L : Int) + np := by omega
  generalize n * (L : Int) + np = Tz at *
  obtain ⟨T, rfl⟩ := Int.eq_ofNat_of_zero_le (show 0 ≤ Tz by omega)
  go_wp2_with (first
    | (refine wpList_make_full _ rfl (.tmp 88) (.tmp 88) 25 rfl w.heap.size 166 j0 (.agg #[.int .i8 0, .int .i8 0, .int .i8 0, .int .i8 0, .int .i8 0]) 5 Yba.underlying25 ji jz0 jz1 .i64 .i64 _ _ L rfl rfl rfl rfl (by rw [jz2]; omega) (by unfold maxLen; omega) (Nat.le_refl _) ?_; intro w1 hown1 hgr1; have t1 : Tch [] w w1 := (Tch.refl _ _).of_grownBy hgr1 (by simp); have T1 := hide t1; clear hown1 hgr1 t1)
    | (refine wpList_make_full _ rfl (.tmp 93) (.tmp 93) 23 rfl (w1.heap.size + 1) 21 i0 (.int .i32 0) 1 Yba.underlying23 hi hz0 hz1 .i32 .i32 _ _ (T + 1) rfl rfl (by omega) (by omega) (by rw [hz2]; omega) (by unfold maxLen; omega) (by simp) ?_; intro w2 hown2 hgr2)
    | fail)
  rw [World.size_alloc] at hown2
  have t2 : Tch [] (w1.alloc (.cells #[.pointer none, .int .i32 n, .slice (some ⟨w.heap.size, 0, none⟩) L L, .int .i32 0, .slice none 0 0, .slice none 0 0, .slice none 0 0] 29)) w2 := (Tch.refl _ _).of_grownBy hgr2 (by simp)
  have hd : Blk w2 w1.heap.size 29 [.pointer none, .int .i32 n, .slice (some ⟨w.heap.size, 0, none⟩) L L, .int .i32 0, .slice none 0 0, .slice none 0 0, .slice none 0 0] := (Blk.new w1 _ 29).touch t2 (by simp)
  have t02 : Tch [] w w2 := (T1.out.alloc _).trans t2 (by simp)
  have htlen : (tails T xs).length = m := by unfold tails; rw [List.length_map]; exact H4.out.1
  have R0 : RelA (w1.heap.size + 1) T (tails T xs) w 0 w2 := ⟨_, Own.made hown2, fun f hf => by
    rw [List.getElem?_replicate, if_pos (by omega)]; simp, t02⟩
  have HR0 := hide R0
  have HD := hide hd
  have z1 := T1.out.size
  have HL4 := hide H4.out.1
  have HTLEN := hide htlen
  clear hown2 hgr2 t2 hd t02 R0 htlen T1
  generalize hgd : w1.heap.size = gd at *
  have HGD := hide hgd
  clear hgd
  go_loopw [97] (fun t wr => ∃ k : Nat, k ≤ m ∧ t = .int .i64 k ∧ RelA (gd + 1) T (tails T xs) w k wr ∧ Blk wr gd 29 [.pointer none, .int .i32 n, .slice (some ⟨w.heap.size, 0, none⟩) L L, .int .i32 0, .slice none 0 0, .slice none 0 0, .slice none 0 0]) (fun t _ => m - (intOf t).toNat)
  case atStart => exact ⟨0, Nat.zero_le _, rfl, HR0.out, HD.out⟩
  case round =>
    clear HR0 HD
    obtain ⟨k, hk, rfl, ⟨cl, q1, q2, q3⟩, q4⟩ := hrel
    by_cases hlt : k < m
    · obtain ⟨⟨f, t⟩, hx⟩ : ∃ x, xs[k]? = some x := ⟨xs[k]'(by rw [HL4.out]; exact hlt), List.getElem?_eq_getElem _⟩
      obtain ⟨b, off, ha4, cf, ct, bf, bt⟩ := (Arcs.keep H4.out q3).2 k f t hx
      subst ha4
      have hfT : f % T < T := Nat.mod_lt _ (by omega)
      have htl := tails_at (T := T) hx
      obtain ⟨x1, ex1, cfl⟩ := q1.cell (i := f % T) (by rw [q1.len]; omega)
      rw [q2 (f % T) hfT] at ex1
      cases ex1
      have ffz := q1.frozen (f % T)
      have hcl : ((tails T xs).take k).count (f % T) ≤ 1024 := by
        have h1 := List.count_le_length (l := (tails T xs).take k) (a := f % T)
        have h2 := List.length_take_le k (tails T xs)
        omega
      have g1 : gd + 1 < wr.heap.size := (q1.lt (g := gd + 1) rfl).2
      have R1 := fun o => relA_step (o := o) q1 q2 q3 (by omega) htl hfT
      have D1 := fun (v : Value) (o : Obj) => ((q4.other (p := ⟨gd + 1, f % T, none⟩) (by simp) v).alloc o)
      have HR1 := hide R1
      have HD1 := hide D1
      generalize ((tails T xs).take k).count (f % T) = q at *
      have hf255 : (f : Int) ≤ 255 := by omega
      have ht255 : (t : Int) ≤ 255 := by omega
      have hTi : (f : Int) % (T : Int) < (T : Int) + 1 := by have := Int.emod_lt_of_pos (f : Int) (show 0 < (T : Int) by omega); omega
      clear q1 q2 q3 q4 R1 D1 htl hx
      go_wp2_with fail
      go_roundw
      case rel => exact ⟨k + 1, by omega, by go_num, HR1.out _, HD1.out _ _⟩
      case measure => simp [intOf]; omega
    · obtain rfl : k = m := by omega
      have hkT : (tails T xs).take k = tails T xs := List.take_of_length_le (by rw [HTLEN.out]; omega)
      rw [hkT] at q2
      have hzz := q3.size
      have q1' := q1.mono (B' := w.heap.size) (by omega)
      have Q1 := hide q1'
      have Q2 := hide q2
      have Q3 := hide q3
      have Q4 := hide q4
      clear q1 q1' q2 q3 q4 hkT
      go_upto_region 15 with fail
      refine segB _ _ _ _ _ _ _ _ _ _ _ _ _ _ _ _ _ _ _ _ _ _ _ _ _ _ _ _ _ _ _ _ _ _ _ _ _ _ _ _ _ _ _ _ _ _ _ _ _ _ _ _ _ _ _ _ _ _ _ _ _ _ _ _ _ _ _ _ _ _ _ _ _ _ _ _ _ _ _ _ _ _ _ _ _ _ _ _ _ _ _ _ _ _ _ _ _ _ _ _ _ _ _ _ _ _ _ _ _ _ _ _ _ _ _ _ _ _ _ _ _ _ _ _ _ _ _ _ _ _ _ _ _ _ _ _ _ _ _ _ _ _ _ _ _ _ _ _ _ _ _ _ _ _ _ _ _ _ _ _ _ _ _ _ _ _ _ _ _ _ _ _ _ _ _ _ _ _ _ _ _ _ _ _ _ _ _ _ _ _ _ _ _ _ _ _ _ _ _ _ _ _ _ _ _ _ _ _ _ _ _ _ _ _ _ _ _ _ _ _ _ _ _ _ _ _ _ _ _ _ _ _ _ _ _ _ _ _ _ _ _ _ _ _ _ _ _ _ _ _ _ _ _ _ _ _ _ _ _ _ _ _ _ _ _ _ _ _ _ _ _ _ _ _ _ _ _ _ _ _ _ _ _ _ _ _ _ _ _ _ _ _ _ _ _ _ _ _ _ _ _ _ _ _ _ _ _ _ _ _ _ _ _ _ _ _ _ _ _ _ _ _ _ _ _ _ _ _ _ _ _ _ _ _ _ _ _ _ _ _ _ w.heap.size gd (gd + 1) k T L n5 c5 c4 L a4 a5 _ n a3 _ _ _ _ _ xs cl dga tka pta w wr (Arcs.keep H4.out Q3.out) (Src.keep H6.out Q3.out) (Src.keep H7.out Q3.out) (Src.keep H5.out Q3.out) Q4.out Q1.out Q2.out (by omega) r3 (by omega) (by omega) (by omega) (by omega) (by omega) (by omega) (by omega) (by omega) HDG.out (fun hne g hg => by have := HO5.out hne g hg; omega) (fun hne g hg => by have := HO6.out hne g hg; omega) (fun hne g hg => by have := HO7.out hne g hg; omega) (by have := L6.out; omega) (by have := L7.out; omega) (Tch.below0 (Below.refl _ _) Q3.out) (by omega) _ ?_
      assumption
end Go.Proofs.Ybulkaxc.Seg
