/-
  components (17), by contract.
-/
import Derived.Test.YbulkaxcCtail
import Derived.Deep.RegionHeld3
import Derived.Deep.RegionLaw
import Derived.Deep.DeepCutAuto
import Derived.Deep.QuietTactic
import Derived.BigQuiet
import Derived.WalkSpells
namespace Go.Proofs.Ybulkaxc.Cm
open Go Go.RowKit Go.Proofs.Ybulkaxc.M2 Go.Proofs.Ybulkaxc.Tj Go.Proofs.Ybulkaxc.Pl2
set_option linter.unusedVariables false

/-- Behind the first two makes: start's box, the boxes and rows of index and low. -/
def T1 (B n b7 b2 b3 gi gl : Nat) (vst : Value) : Nat → Thing
  | 2 => bkT b2 23 [.slice (some ⟨gi, 0, none⟩) n n]
  | 3 => bkT b3 23 [.slice (some ⟨gl, 0, none⟩) n n]
  | 7 => bkT b7 23 [vst]
  | 8 => slT .i32 21 B (.slice (some ⟨gi, 0, none⟩) n n) (List.replicate n 0)
  | 9 => slT .i32 21 B (.slice (some ⟨gl, 0, none⟩) n n) (List.replicate n 0)
  | _ => noT
/-- Behind the next two: the rows comp and onCycle too. -/
def T2 (B n b7 b2 b3 gi gl gm gy : Nat) (vst : Value) : Nat → Thing
  | 2 => bkT b2 23 [.slice (some ⟨gi, 0, none⟩) n n]
  | 3 => bkT b3 23 [.slice (some ⟨gl, 0, none⟩) n n]
  | 7 => bkT b7 23 [vst]
  | 8 => slT .i32 21 B (.slice (some ⟨gi, 0, none⟩) n n) (List.replicate n 0)
  | 9 => slT .i32 21 B (.slice (some ⟨gl, 0, none⟩) n n) (List.replicate n 0)
  | 13 => slT .i32 21 B (.slice (some ⟨gm, 0, none⟩) n n) (List.replicate n 0)
  | 14 => blT B (.slice (some ⟨gy, 0, none⟩) n n) (List.replicate n false)
  | _ => noT

set_option maxRecDepth 10000 in
set_option maxHeartbeats 8000000 in
theorem components_any (w : World) (n m gs gh : Nat) (A : List (Nat × Nat)) (st hd : List Int) (hn : n ≤ 1000) (hm : m ≤ 100000) (hA : ∀ a b, (a, b) ∈ A → a < n ∧ b < n) (hcsr : CSR A n st hd) (hst : Own .i32 21 w 0 (.slice (some ⟨gs, 0, none⟩) (n + 1) (n + 1)) st) (hhd : Own .i32 21 w 0 (.slice (some ⟨gh, 0, none⟩) m m) hd) :
    Calls Yba.prog 17 #[.slice (some ⟨gs, 0, none⟩) (n + 1) (n + 1), .slice (some ⟨gh, 0, none⟩) m m] w fun e w' => CRet w A n e w' := by
  have HS := hide hst
  have HH := hide hhd
  have HA := hide hA
  have HC := hide hcsr
  clear hst hhd hA hcsr
  go_enter Yba.func17, Yba.ntmps17
  go_upto_region 2 with fail
  obtain ⟨tag1, hb1, ht1⟩ := bag_new (bag_none w) 7 (by decide) #[.slice (some ⟨gs, 0, none⟩) (n + 1) (n + 1)] 23
  have HB := hide hb1
  have HT := hide ht1
  have hB : w.heap.size ≤ (w.alloc (.cells #[.slice (some ⟨gs, 0, none⟩) (n + 1) (n + 1)] 23)).heap.size := by simp
  clear hb1 ht1
  generalize w.alloc (.cells #[.slice (some ⟨gs, 0, none⟩) (n + 1) (n + 1)] 23) = W at *
  go_cut [7, 8] (fun v7 v8 wx => ∃ tag b2 b3 gi gl, v7 = .pointer (some ⟨b2, 0, none⟩) ∧ v8 = .pointer (some ⟨b3, 0, none⟩) ∧ Bag wx tag (T1 w.heap.size n w.heap.size b2 b3 gi gl (.slice (some ⟨gs, 0, none⟩) (n + 1) (n + 1))) ∧ TB (fun _ => 0) w tag wx)
  case first =>
    have HB0 := hide (HB.out.keep (w' := W.drew) ⟨rfl, rfl, rfl, Nat.le_refl _, fun _ _ _ => rfl⟩)
    have HT0 := hide (HT.out.trans (TB.keep (w' := W.drew) ⟨rfl, rfl, rfl, Nat.le_refl _, fun _ _ _ => rfl⟩))
    have hB0 : w.heap.size ≤ W.drew.heap.size := hB
    clear HB HT hB
    refine wp_region_held_drew (S := fun _ => True) (by kernel_rfl) trivial (fun hHeld => ?_)
    clear hHeld
    generalize W.drew = Wd at *
    refine wpAnyH_take (i := 0) (oi := { dst := some 29, op := Op.move (Operand.tmp 6), type := 21, pos := "walk.go:816", after := #[], guard := none }) (v := .int .i32 (n : Int)) rfl (by kernel_rfl) (by kernel_rfl) (by kernel_rfl) (fun _ _ _ h => h) (Or.inl ⟨by rfl, fun w0 hSw => by go_simp⟩) trivial ?_
    try simp only [Act.put, List.setIfInBounds_toArray, List.set_cons_zero, List.set_cons_succ]
    refine wpAnyH_take (i := 2) (oi := { dst := some 31, op := Op.move (Operand.tmp 6), type := 21, pos := "walk.go:816", after := #[], guard := none }) (v := .int .i32 (n : Int)) rfl (by kernel_rfl) (by kernel_rfl) (by kernel_rfl) (fun _ _ _ h => h) (Or.inl ⟨by rfl, fun w0 hSw => by go_simp⟩) trivial ?_
    try simp only [Act.put, List.setIfInBounds_toArray, List.set_cons_zero, List.set_cons_succ]
    refine wpAnyH_ready (rs := [1, 3, 4, 5]) (by kernel_rfl) (by simp) ?_
    refine AllReadyH.cons (o := { dst := some 30, op := Op.makeSlice 23 (Operand.tmp 29) (Operand.tmp 29), type := 23, pos := "walk.go:816", after := #[{ on := 0, ground := Ground.data }, { on := 0, ground := Ground.data }], guard := none }) rfl (fun K hK => ?_) (AllReadyH.cons (o := { dst := some 32, op := Op.makeSlice 23 (Operand.tmp 31) (Operand.tmp 31), type := 23, pos := "walk.go:816", after := #[{ on := 2, ground := Ground.data }, { on := 2, ground := Ground.data }], guard := none }) rfl (fun K hK => ?_) (AllReadyH.cons (o := { dst := some 7, op := Op.alloc 23, type := 0, pos := "walk.go:816", after := #[], guard := none }) rfl (fun K hK => ?_) (AllReadyH.cons (o := { dst := some 8, op := Op.alloc 23, type := 0, pos := "walk.go:816", after := #[], guard := none }) rfl (fun K hK => ?_) (AllReadyH.nil))))
    · skip
      refine step_mk HB0.out 8 (by decide) (B := w.heap.size) hB0 rfl (.tmp 29) rfl n rfl (by omega) ?_
      intro x1 tg1 hb ht
      have HB1 := hide hb
      have HT1 := hide (HT0.out.trans ht)
      have hB1 : w.heap.size ≤ x1.heap.size := Nat.le_trans hB0 ht.tch.size
      clear hb ht
      refine hK.out _ _ trivial (fun _ => ?_)
      clear hK K
      try simp only [Act.put, List.setIfInBounds_toArray, List.set_cons_zero, List.set_cons_succ]
      refine wpAnyH_ready (rs := [3, 4, 5]) (by kernel_rfl) (by simp) ?_
      refine AllReadyH.cons (o := { dst := some 32, op := Op.makeSlice 23 (Operand.tmp 31) (Operand.tmp 31), type := 23, pos := "walk.go:816", after := #[{ on := 2, ground := Ground.data }, { on := 2, ground := Ground.data }], guard := none }) rfl (fun K hK => ?_) (AllReadyH.cons (o := { dst := some 7, op := Op.alloc 23, type := 0, pos := "walk.go:816", after := #[], guard := none }) rfl (fun K hK => ?_) (AllReadyH.cons (o := { dst := some 8, op := Op.alloc 23, type := 0, pos := "walk.go:816", after := #[], guard := none }) rfl (fun K hK => ?_) (AllReadyH.nil)))
      · skip
        refine step_mk HB1.out 9 (by decide) (B := w.heap.size) hB1 rfl (.tmp 31) rfl n rfl (by omega) ?_
        intro x2 tg2 hb ht
        have HB2 := hide hb
        have HT2 := hide (HT1.out.trans ht)
        have hB2 : w.heap.size ≤ x2.heap.size := Nat.le_trans hB1 ht.tch.size
        clear hb ht
        refine hK.out _ _ trivial (fun _ => ?_)
        clear hK K
        try simp only [Act.put, List.setIfInBounds_toArray, List.set_cons_zero, List.set_cons_succ]
        refine wpAnyH_ready (rs := [4, 5]) (by kernel_rfl) (by simp) ?_
        refine AllReadyH.cons (o := { dst := some 7, op := Op.alloc 23, type := 0, pos := "walk.go:816", after := #[], guard := none }) rfl (fun K hK => ?_) (AllReadyH.cons (o := { dst := some 8, op := Op.alloc 23, type := 0, pos := "walk.go:816", after := #[], guard := none }) rfl (fun K hK => ?_) (AllReadyH.nil))
        · skip
          go_simp
          obtain ⟨tg3, hb, ht⟩ := bag_new HB2.out 2 (by decide) #[.slice none 0 0] 23
          generalize x2.alloc (.cells #[.slice none 0 0] 23) = x3 at *
          have HB3 := hide hb
          have HT3 := hide (HT2.out.trans ht)
          have hB3 : w.heap.size ≤ x3.heap.size := Nat.le_trans hB2 ht.tch.size
          clear hb ht
          refine hK.out _ _ trivial (fun _ => ?_)
          clear hK K
          try simp only [Act.put, List.setIfInBounds_toArray, List.set_cons_zero, List.set_cons_succ]
          refine wpAnyH_ready (rs := [5]) (by kernel_rfl) (by simp) ?_
          refine AllReadyH.cons (o := { dst := some 8, op := Op.alloc 23, type := 0, pos := "walk.go:816", after := #[], guard := none }) rfl (fun K hK => ?_) (AllReadyH.nil)
          · skip
            go_simp
            obtain ⟨tg4, hb, ht⟩ := bag_new HB3.out 3 (by decide) #[.slice none 0 0] 23
            generalize x3.alloc (.cells #[.slice none 0 0] 23) = x4 at *
            have HB4 := hide hb
            have HT4 := hide (HT3.out.trans ht)
            have hB4 : w.heap.size ≤ x4.heap.size := Nat.le_trans hB3 ht.tch.size
            clear hb ht
            refine hK.out _ _ trivial (fun _ => ?_)
            clear hK K
            try simp only [Act.put, List.setIfInBounds_toArray, List.set_cons_zero, List.set_cons_succ]
            refine wpAnyH_ready (rs := [6]) (by kernel_rfl) (by simp) ?_
            refine AllReadyH.cons (o := { dst := none, op := Op.store 23 (Operand.tmp 7) (Operand.tmp 30), type := 0, pos := "walk.go:816", after := #[{ on := 4, ground := Ground.data }, { on := 1, ground := Ground.data }, { on := 0, ground := Ground.phase }, { on := 1, ground := Ground.phase }, { on := 2, ground := Ground.textOnly Departure.lateStores }, { on := 3, ground := Ground.textOnly Departure.lateStoresUnsure }, { on := 4, ground := Ground.phase }, { on := 5, ground := Ground.phase }], guard := none }) rfl (fun K hK => ?_) (AllReadyH.nil)
            · skip
              have cz : x4.cell? ⟨x2.heap.size, 0, none⟩ = some (.slice none 0 0) := Blk.cell (show Blk x4 x2.heap.size 23 [.slice none 0 0] from HB4.out.say 2) 0
              have fz : x4.frozen? ⟨x2.heap.size, 0, none⟩ = false := Blk.frozen (show Blk x4 x2.heap.size 23 [.slice none 0 0] from HB4.out.say 2) 0
              go_simp
              obtain ⟨tg5, hb, ht⟩ := bag_set HB4.out 2 (by decide) (g := x2.heap.size) (e := 23) (cs := [.slice none 0 0]) rfl 0 (.slice (some ⟨Wd.heap.size, 0, none⟩) n n)
              clear cz fz
              generalize x4.setCell ⟨x2.heap.size, 0, none⟩ (.slice (some ⟨Wd.heap.size, 0, none⟩) n n) = x5 at *
              have HB5 := hide hb
              have HT5 := hide (HT4.out.trans ht)
              have hB5 : w.heap.size ≤ x5.heap.size := Nat.le_trans hB4 ht.tch.size
              clear hb ht
              refine hK.out _ _ trivial (fun _ => ?_)
              clear hK K
              try simp only [Act.put, List.setIfInBounds_toArray, List.set_cons_zero, List.set_cons_succ]
              refine wpAnyH_ready (rs := [7]) (by kernel_rfl) (by simp) ?_
              refine AllReadyH.cons (o := { dst := none, op := Op.store 23 (Operand.tmp 8) (Operand.tmp 32), type := 0, pos := "walk.go:816", after := #[{ on := 5, ground := Ground.data }, { on := 3, ground := Ground.data }, { on := 6, ground := Ground.chain }, { on := 0, ground := Ground.phase }, { on := 1, ground := Ground.phase }, { on := 2, ground := Ground.phase }, { on := 3, ground := Ground.phase }, { on := 4, ground := Ground.phase }, { on := 5, ground := Ground.phase }, { on := 6, ground := Ground.phase }], guard := none }) rfl (fun K hK => ?_) (AllReadyH.nil)
              · skip
                have cz : x5.cell? ⟨x3.heap.size, 0, none⟩ = some (.slice none 0 0) := Blk.cell (show Blk x5 x3.heap.size 23 [.slice none 0 0] from HB5.out.say 3) 0
                have fz : x5.frozen? ⟨x3.heap.size, 0, none⟩ = false := Blk.frozen (show Blk x5 x3.heap.size 23 [.slice none 0 0] from HB5.out.say 3) 0
                go_simp
                obtain ⟨tg6, hb, ht⟩ := bag_set HB5.out 3 (by decide) (g := x3.heap.size) (e := 23) (cs := [.slice none 0 0]) rfl 0 (.slice (some ⟨x1.heap.size, 0, none⟩) n n)
                clear cz fz
                generalize x5.setCell ⟨x3.heap.size, 0, none⟩ (.slice (some ⟨x1.heap.size, 0, none⟩) n n) = x6 at *
                have HB6 := hide hb
                have HT6 := hide (HT5.out.trans ht)
                have hB6 : w.heap.size ≤ x6.heap.size := Nat.le_trans hB5 ht.tch.size
                clear hb ht
                refine hK.out _ _ trivial (fun _ => ?_)
                clear hK K
                try simp only [Act.put, List.setIfInBounds_toArray, List.set_cons_zero, List.set_cons_succ]
                refine wpAnyH_done (by kernel_rfl) ?_ _
                go_wp2_with fail
                go_meet
                case rel => exact ⟨_, x2.heap.size, x3.heap.size, Wd.heap.size, x1.heap.size, rfl, rfl, Bag.congr HB6.out (fun i => by match i with | 0 | 1 | 2 | 3 | 4 | 5 | 6 | 7 | 8 | 9 | 10 | 11 | 12 | 13 | 14 => rfl | k + 15 => rfl), HT6.out⟩
        · skip
          go_simp
          obtain ⟨tg3, hb, ht⟩ := bag_new HB2.out 3 (by decide) #[.slice none 0 0] 23
          generalize x2.alloc (.cells #[.slice none 0 0] 23) = x3 at *
          have HB3 := hide hb
          have HT3 := hide (HT2.out.trans ht)
          have hB3 : w.heap.size ≤ x3.heap.size := Nat.le_trans hB2 ht.tch.size
          clear hb ht
          refine hK.out _ _ trivial (fun _ => ?_)
          clear hK K
          try simp only [Act.put, List.setIfInBounds_toArray, List.set_cons_zero, List.set_cons_succ]
          refine wpAnyH_ready (rs := [4]) (by kernel_rfl) (by simp) ?_
          refine AllReadyH.cons (o := { dst := some 7, op := Op.alloc 23, type := 0, pos := "walk.go:816", after := #[], guard := none }) rfl (fun K hK => ?_) (AllReadyH.nil)
          · skip
            go_simp
            obtain ⟨tg4, hb, ht⟩ := bag_new HB3.out 2 (by decide) #[.slice none 0 0] 23
            generalize x3.alloc (.cells #[.slice none 0 0] 23) = x4 at *
            have HB4 := hide hb
            have HT4 := hide (HT3.out.trans ht)
            have hB4 : w.heap.size ≤ x4.heap.size := Nat.le_trans hB3 ht.tch.size
            clear hb ht
            refine hK.out _ _ trivial (fun _ => ?_)
            clear hK K
            try simp only [Act.put, List.setIfInBounds_toArray, List.set_cons_zero, List.set_cons_succ]
            refine wpAnyH_ready (rs := [6]) (by kernel_rfl) (by simp) ?_
            refine AllReadyH.cons (o := { dst := none, op := Op.store 23 (Operand.tmp 7) (Operand.tmp 30), type := 0, pos := "walk.go:816", after := #[{ on := 4, ground := Ground.data }, { on := 1, ground := Ground.data }, { on := 0, ground := Ground.phase }, { on := 1, ground := Ground.phase }, { on := 2, ground := Ground.textOnly Departure.lateStores }, { on := 3, ground := Ground.textOnly Departure.lateStoresUnsure }, { on := 4, ground := Ground.phase }, { on := 5, ground := Ground.phase }], guard := none }) rfl (fun K hK => ?_) (AllReadyH.nil)
            · skip
              have cz : x4.cell? ⟨x3.heap.size, 0, none⟩ = some (.slice none 0 0) := Blk.cell (show Blk x4 x3.heap.size 23 [.slice none 0 0] from HB4.out.say 2) 0
              have fz : x4.frozen? ⟨x3.heap.size, 0, none⟩ = false := Blk.frozen (show Blk x4 x3.heap.size 23 [.slice none 0 0] from HB4.out.say 2) 0
              go_simp
              obtain ⟨tg5, hb, ht⟩ := bag_set HB4.out 2 (by decide) (g := x3.heap.size) (e := 23) (cs := [.slice none 0 0]) rfl 0 (.slice (some ⟨Wd.heap.size, 0, none⟩) n n)
              clear cz fz
              generalize x4.setCell ⟨x3.heap.size, 0, none⟩ (.slice (some ⟨Wd.heap.size, 0, none⟩) n n) = x5 at *
              have HB5 := hide hb
              have HT5 := hide (HT4.out.trans ht)
              have hB5 : w.heap.size ≤ x5.heap.size := Nat.le_trans hB4 ht.tch.size
              clear hb ht
              refine hK.out _ _ trivial (fun _ => ?_)
              clear hK K
              try simp only [Act.put, List.setIfInBounds_toArray, List.set_cons_zero, List.set_cons_succ]
              refine wpAnyH_ready (rs := [7]) (by kernel_rfl) (by simp) ?_
              refine AllReadyH.cons (o := { dst := none, op := Op.store 23 (Operand.tmp 8) (Operand.tmp 32), type := 0, pos := "walk.go:816", after := #[{ on := 5, ground := Ground.data }, { on := 3, ground := Ground.data }, { on := 6, ground := Ground.chain }, { on := 0, ground := Ground.phase }, { on := 1, ground := Ground.phase }, { on := 2, ground := Ground.phase }, { on := 3, ground := Ground.phase }, { on := 4, ground := Ground.phase }, { on := 5, ground := Ground.phase }, { on := 6, ground := Ground.phase }], guard := none }) rfl (fun K hK => ?_) (AllReadyH.nil)
              · skip
                have cz : x5.cell? ⟨x2.heap.size, 0, none⟩ = some (.slice none 0 0) := Blk.cell (show Blk x5 x2.heap.size 23 [.slice none 0 0] from HB5.out.say 3) 0
                have fz : x5.frozen? ⟨x2.heap.size, 0, none⟩ = false := Blk.frozen (show Blk x5 x2.heap.size 23 [.slice none 0 0] from HB5.out.say 3) 0
                go_simp
                obtain ⟨tg6, hb, ht⟩ := bag_set HB5.out 3 (by decide) (g := x2.heap.size) (e := 23) (cs := [.slice none 0 0]) rfl 0 (.slice (some ⟨x1.heap.size, 0, none⟩) n n)
                clear cz fz
                generalize x5.setCell ⟨x2.heap.size, 0, none⟩ (.slice (some ⟨x1.heap.size, 0, none⟩) n n) = x6 at *
                have HB6 := hide hb
                have HT6 := hide (HT5.out.trans ht)
                have hB6 : w.heap.size ≤ x6.heap.size := Nat.le_trans hB5 ht.tch.size
                clear hb ht
                refine hK.out _ _ trivial (fun _ => ?_)
                clear hK K
                try simp only [Act.put, List.setIfInBounds_toArray, List.set_cons_zero, List.set_cons_succ]
                refine wpAnyH_done (by kernel_rfl) ?_ _
                go_wp2_with fail
                go_meet
                case rel => exact ⟨_, x3.heap.size, x2.heap.size, Wd.heap.size, x1.heap.size, rfl, rfl, Bag.congr HB6.out (fun i => by match i with | 0 | 1 | 2 | 3 | 4 | 5 | 6 | 7 | 8 | 9 | 10 | 11 | 12 | 13 | 14 => rfl | k + 15 => rfl), HT6.out⟩
      · skip
        go_simp
        obtain ⟨tg2, hb, ht⟩ := bag_new HB1.out 2 (by decide) #[.slice none 0 0] 23
        generalize x1.alloc (.cells #[.slice none 0 0] 23) = x2 at *
        have HB2 := hide hb
        have HT2 := hide (HT1.out.trans ht)
        have hB2 : w.heap.size ≤ x2.heap.size := Nat.le_trans hB1 ht.tch.size
        clear hb ht
        refine hK.out _ _ trivial (fun _ => ?_)
        clear hK K
        try simp only [Act.put, List.setIfInBounds_toArray, List.set_cons_zero, List.set_cons_succ]
        refine wpAnyH_ready (rs := [3, 5]) (by kernel_rfl) (by simp) ?_
        refine AllReadyH.cons (o := { dst := some 32, op := Op.makeSlice 23 (Operand.tmp 31) (Operand.tmp 31), type := 23, pos := "walk.go:816", after := #[{ on := 2, ground := Ground.data }, { on := 2, ground := Ground.data }], guard := none }) rfl (fun K hK => ?_) (AllReadyH.cons (o := { dst := some 8, op := Op.alloc 23, type := 0, pos := "walk.go:816", after := #[], guard := none }) rfl (fun K hK => ?_) (AllReadyH.nil))
        · skip
          refine step_mk HB2.out 9 (by decide) (B := w.heap.size) hB2 rfl (.tmp 31) rfl n rfl (by omega) ?_
          intro x3 tg3 hb ht
          have HB3 := hide hb
          have HT3 := hide (HT2.out.trans ht)
          have hB3 : w.heap.size ≤ x3.heap.size := Nat.le_trans hB2 ht.tch.size
          clear hb ht
          refine hK.out _ _ trivial (fun _ => ?_)
          clear hK K
          try simp only [Act.put, List.setIfInBounds_toArray, List.set_cons_zero, List.set_cons_succ]
          refine wpAnyH_ready (rs := [5]) (by kernel_rfl) (by simp) ?_
          refine AllReadyH.cons (o := { dst := some 8, op := Op.alloc 23, type := 0, pos := "walk.go:816", after := #[], guard := none }) rfl (fun K hK => ?_) (AllReadyH.nil)
          · skip
            go_simp
            obtain ⟨tg4, hb, ht⟩ := bag_new HB3.out 3 (by decide) #[.slice none 0 0] 23
            generalize x3.alloc (.cells #[.slice none 0 0] 23) = x4 at *
            have HB4 := hide hb
            have HT4 := hide (HT3.out.trans ht)
            have hB4 : w.heap.size ≤ x4.heap.size := Nat.le_trans hB3 ht.tch.size
            clear hb ht
            refine hK.out _ _ trivial (fun _ => ?_)
            clear hK K
            try simp only [Act.put, List.setIfInBounds_toArray, List.set_cons_zero, List.set_cons_succ]
            refine wpAnyH_ready (rs := [6]) (by kernel_rfl) (by simp) ?_
            refine AllReadyH.cons (o := { dst := none, op := Op.store 23 (Operand.tmp 7) (Operand.tmp 30), type := 0, pos := "walk.go:816", after := #[{ on := 4, ground := Ground.data }, { on := 1, ground := Ground.data }, { on := 0, ground := Ground.phase }, { on := 1, ground := Ground.phase }, { on := 2, ground := Ground.textOnly Departure.lateStores }, { on := 3, ground := Ground.textOnly Departure.lateStoresUnsure }, { on := 4, ground := Ground.phase }, { on := 5, ground := Ground.phase }], guard := none }) rfl (fun K hK => ?_) (AllReadyH.nil)
            · skip
              have cz : x4.cell? ⟨x1.heap.size, 0, none⟩ = some (.slice none 0 0) := Blk.cell (show Blk x4 x1.heap.size 23 [.slice none 0 0] from HB4.out.say 2) 0
              have fz : x4.frozen? ⟨x1.heap.size, 0, none⟩ = false := Blk.frozen (show Blk x4 x1.heap.size 23 [.slice none 0 0] from HB4.out.say 2) 0
              go_simp
              obtain ⟨tg5, hb, ht⟩ := bag_set HB4.out 2 (by decide) (g := x1.heap.size) (e := 23) (cs := [.slice none 0 0]) rfl 0 (.slice (some ⟨Wd.heap.size, 0, none⟩) n n)
              clear cz fz
              generalize x4.setCell ⟨x1.heap.size, 0, none⟩ (.slice (some ⟨Wd.heap.size, 0, none⟩) n n) = x5 at *
              have HB5 := hide hb
              have HT5 := hide (HT4.out.trans ht)
              have hB5 : w.heap.size ≤ x5.heap.size := Nat.le_trans hB4 ht.tch.size
              clear hb ht
              refine hK.out _ _ trivial (fun _ => ?_)
              clear hK K
              try simp only [Act.put, List.setIfInBounds_toArray, List.set_cons_zero, List.set_cons_succ]
              refine wpAnyH_ready (rs := [7]) (by kernel_rfl) (by simp) ?_
              refine AllReadyH.cons (o := { dst := none, op := Op.store 23 (Operand.tmp 8) (Operand.tmp 32), type := 0, pos := "walk.go:816", after := #[{ on := 5, ground := Ground.data }, { on := 3, ground := Ground.data }, { on := 6, ground := Ground.chain }, { on := 0, ground := Ground.phase }, { on := 1, ground := Ground.phase }, { on := 2, ground := Ground.phase }, { on := 3, ground := Ground.phase }, { on := 4, ground := Ground.phase }, { on := 5, ground := Ground.phase }, { on := 6, ground := Ground.phase }], guard := none }) rfl (fun K hK => ?_) (AllReadyH.nil)
              · skip
                have cz : x5.cell? ⟨x3.heap.size, 0, none⟩ = some (.slice none 0 0) := Blk.cell (show Blk x5 x3.heap.size 23 [.slice none 0 0] from HB5.out.say 3) 0
                have fz : x5.frozen? ⟨x3.heap.size, 0, none⟩ = false := Blk.frozen (show Blk x5 x3.heap.size 23 [.slice none 0 0] from HB5.out.say 3) 0
                go_simp
                obtain ⟨tg6, hb, ht⟩ := bag_set HB5.out 3 (by decide) (g := x3.heap.size) (e := 23) (cs := [.slice none 0 0]) rfl 0 (.slice (some ⟨x2.heap.size, 0, none⟩) n n)
                clear cz fz
                generalize x5.setCell ⟨x3.heap.size, 0, none⟩ (.slice (some ⟨x2.heap.size, 0, none⟩) n n) = x6 at *
                have HB6 := hide hb
                have HT6 := hide (HT5.out.trans ht)
                have hB6 : w.heap.size ≤ x6.heap.size := Nat.le_trans hB5 ht.tch.size
                clear hb ht
                refine hK.out _ _ trivial (fun _ => ?_)
                clear hK K
                try simp only [Act.put, List.setIfInBounds_toArray, List.set_cons_zero, List.set_cons_succ]
                refine wpAnyH_done (by kernel_rfl) ?_ _
                go_wp2_with fail
                go_meet
                case rel => exact ⟨_, x1.heap.size, x3.heap.size, Wd.heap.size, x2.heap.size, rfl, rfl, Bag.congr HB6.out (fun i => by match i with | 0 | 1 | 2 | 3 | 4 | 5 | 6 | 7 | 8 | 9 | 10 | 11 | 12 | 13 | 14 => rfl | k + 15 => rfl), HT6.out⟩
        · skip
          go_simp
          obtain ⟨tg3, hb, ht⟩ := bag_new HB2.out 3 (by decide) #[.slice none 0 0] 23
          generalize x2.alloc (.cells #[.slice none 0 0] 23) = x3 at *
          have HB3 := hide hb
          have HT3 := hide (HT2.out.trans ht)
          have hB3 : w.heap.size ≤ x3.heap.size := Nat.le_trans hB2 ht.tch.size
          clear hb ht
          refine hK.out _ _ trivial (fun _ => ?_)
          clear hK K
          try simp only [Act.put, List.setIfInBounds_toArray, List.set_cons_zero, List.set_cons_succ]
          refine wpAnyH_ready (rs := [3, 6]) (by kernel_rfl) (by simp) ?_
          refine AllReadyH.cons (o := { dst := some 32, op := Op.makeSlice 23 (Operand.tmp 31) (Operand.tmp 31), type := 23, pos := "walk.go:816", after := #[{ on := 2, ground := Ground.data }, { on := 2, ground := Ground.data }], guard := none }) rfl (fun K hK => ?_) (AllReadyH.cons (o := { dst := none, op := Op.store 23 (Operand.tmp 7) (Operand.tmp 30), type := 0, pos := "walk.go:816", after := #[{ on := 4, ground := Ground.data }, { on := 1, ground := Ground.data }, { on := 0, ground := Ground.phase }, { on := 1, ground := Ground.phase }, { on := 2, ground := Ground.textOnly Departure.lateStores }, { on := 3, ground := Ground.textOnly Departure.lateStoresUnsure }, { on := 4, ground := Ground.phase }, { on := 5, ground := Ground.phase }], guard := none }) rfl (fun K hK => ?_) (AllReadyH.nil))
          · skip
            refine step_mk HB3.out 9 (by decide) (B := w.heap.size) hB3 rfl (.tmp 31) rfl n rfl (by omega) ?_
            intro x4 tg4 hb ht
            have HB4 := hide hb
            have HT4 := hide (HT3.out.trans ht)
            have hB4 : w.heap.size ≤ x4.heap.size := Nat.le_trans hB3 ht.tch.size
            clear hb ht
            refine hK.out _ _ trivial (fun _ => ?_)
            clear hK K
            try simp only [Act.put, List.setIfInBounds_toArray, List.set_cons_zero, List.set_cons_succ]
            refine wpAnyH_ready (rs := [6]) (by kernel_rfl) (by simp) ?_
            refine AllReadyH.cons (o := { dst := none, op := Op.store 23 (Operand.tmp 7) (Operand.tmp 30), type := 0, pos := "walk.go:816", after := #[{ on := 4, ground := Ground.data }, { on := 1, ground := Ground.data }, { on := 0, ground := Ground.phase }, { on := 1, ground := Ground.phase }, { on := 2, ground := Ground.textOnly Departure.lateStores }, { on := 3, ground := Ground.textOnly Departure.lateStoresUnsure }, { on := 4, ground := Ground.phase }, { on := 5, ground := Ground.phase }], guard := none }) rfl (fun K hK => ?_) (AllReadyH.nil)
            · skip
              have cz : x4.cell? ⟨x1.heap.size, 0, none⟩ = some (.slice none 0 0) := Blk.cell (show Blk x4 x1.heap.size 23 [.slice none 0 0] from HB4.out.say 2) 0
              have fz : x4.frozen? ⟨x1.heap.size, 0, none⟩ = false := Blk.frozen (show Blk x4 x1.heap.size 23 [.slice none 0 0] from HB4.out.say 2) 0
              go_simp
              obtain ⟨tg5, hb, ht⟩ := bag_set HB4.out 2 (by decide) (g := x1.heap.size) (e := 23) (cs := [.slice none 0 0]) rfl 0 (.slice (some ⟨Wd.heap.size, 0, none⟩) n n)
              clear cz fz
              generalize x4.setCell ⟨x1.heap.size, 0, none⟩ (.slice (some ⟨Wd.heap.size, 0, none⟩) n n) = x5 at *
              have HB5 := hide hb
              have HT5 := hide (HT4.out.trans ht)
              have hB5 : w.heap.size ≤ x5.heap.size := Nat.le_trans hB4 ht.tch.size
              clear hb ht
              refine hK.out _ _ trivial (fun _ => ?_)
              clear hK K
              try simp only [Act.put, List.setIfInBounds_toArray, List.set_cons_zero, List.set_cons_succ]
              refine wpAnyH_ready (rs := [7]) (by kernel_rfl) (by simp) ?_
              refine AllReadyH.cons (o := { dst := none, op := Op.store 23 (Operand.tmp 8) (Operand.tmp 32), type := 0, pos := "walk.go:816", after := #[{ on := 5, ground := Ground.data }, { on := 3, ground := Ground.data }, { on := 6, ground := Ground.chain }, { on := 0, ground := Ground.phase }, { on := 1, ground := Ground.phase }, { on := 2, ground := Ground.phase }, { on := 3, ground := Ground.phase }, { on := 4, ground := Ground.phase }, { on := 5, ground := Ground.phase }, { on := 6, ground := Ground.phase }], guard := none }) rfl (fun K hK => ?_) (AllReadyH.nil)
              · skip
                have cz : x5.cell? ⟨x2.heap.size, 0, none⟩ = some (.slice none 0 0) := Blk.cell (show Blk x5 x2.heap.size 23 [.slice none 0 0] from HB5.out.say 3) 0
                have fz : x5.frozen? ⟨x2.heap.size, 0, none⟩ = false := Blk.frozen (show Blk x5 x2.heap.size 23 [.slice none 0 0] from HB5.out.say 3) 0
                go_simp
                obtain ⟨tg6, hb, ht⟩ := bag_set HB5.out 3 (by decide) (g := x2.heap.size) (e := 23) (cs := [.slice none 0 0]) rfl 0 (.slice (some ⟨x3.heap.size, 0, none⟩) n n)
                clear cz fz
                generalize x5.setCell ⟨x2.heap.size, 0, none⟩ (.slice (some ⟨x3.heap.size, 0, none⟩) n n) = x6 at *
                have HB6 := hide hb
                have HT6 := hide (HT5.out.trans ht)
                have hB6 : w.heap.size ≤ x6.heap.size := Nat.le_trans hB5 ht.tch.size
                clear hb ht
                refine hK.out _ _ trivial (fun _ => ?_)
                clear hK K
                try simp only [Act.put, List.setIfInBounds_toArray, List.set_cons_zero, List.set_cons_succ]
                refine wpAnyH_done (by kernel_rfl) ?_ _
                go_wp2_with fail
                go_meet
                case rel => exact ⟨_, x1.heap.size, x2.heap.size, Wd.heap.size, x3.heap.size, rfl, rfl, Bag.congr HB6.out (fun i => by match i with | 0 | 1 | 2 | 3 | 4 | 5 | 6 | 7 | 8 | 9 | 10 | 11 | 12 | 13 | 14 => rfl | k + 15 => rfl), HT6.out⟩
          · skip
            have cz : x3.cell? ⟨x1.heap.size, 0, none⟩ = some (.slice none 0 0) := Blk.cell (show Blk x3 x1.heap.size 23 [.slice none 0 0] from HB3.out.say 2) 0
            have fz : x3.frozen? ⟨x1.heap.size, 0, none⟩ = false := Blk.frozen (show Blk x3 x1.heap.size 23 [.slice none 0 0] from HB3.out.say 2) 0
            go_simp
            obtain ⟨tg4, hb, ht⟩ := bag_set HB3.out 2 (by decide) (g := x1.heap.size) (e := 23) (cs := [.slice none 0 0]) rfl 0 (.slice (some ⟨Wd.heap.size, 0, none⟩) n n)
            clear cz fz
            generalize x3.setCell ⟨x1.heap.size, 0, none⟩ (.slice (some ⟨Wd.heap.size, 0, none⟩) n n) = x4 at *
            have HB4 := hide hb
            have HT4 := hide (HT3.out.trans ht)
            have hB4 : w.heap.size ≤ x4.heap.size := Nat.le_trans hB3 ht.tch.size
            clear hb ht
            refine hK.out _ _ trivial (fun _ => ?_)
            clear hK K
            try simp only [Act.put, List.setIfInBounds_toArray, List.set_cons_zero, List.set_cons_succ]
            refine wpAnyH_ready (rs := [3]) (by kernel_rfl) (by simp) ?_
            refine AllReadyH.cons (o := { dst := some 32, op := Op.makeSlice 23 (Operand.tmp 31) (Operand.tmp 31), type := 23, pos := "walk.go:816", after := #[{ on := 2, ground := Ground.data }, { on := 2, ground := Ground.data }], guard := none }) rfl (fun K hK => ?_) (AllReadyH.nil)
            · skip
              refine step_mk HB4.out 9 (by decide) (B := w.heap.size) hB4 rfl (.tmp 31) rfl n rfl (by omega) ?_
              intro x5 tg5 hb ht
              have HB5 := hide hb
              have HT5 := hide (HT4.out.trans ht)
              have hB5 : w.heap.size ≤ x5.heap.size := Nat.le_trans hB4 ht.tch.size
              clear hb ht
              refine hK.out _ _ trivial (fun _ => ?_)
              clear hK K
              try simp only [Act.put, List.setIfInBounds_toArray, List.set_cons_zero, List.set_cons_succ]
              refine wpAnyH_ready (rs := [7]) (by kernel_rfl) (by simp) ?_
              refine AllReadyH.cons (o := { dst := none, op := Op.store 23 (Operand.tmp 8) (Operand.tmp 32), type := 0, pos := "walk.go:816", after := #[{ on := 5, ground := Ground.data }, { on := 3, ground := Ground.data }, { on := 6, ground := Ground.chain }, { on := 0, ground := Ground.phase }, { on := 1, ground := Ground.phase }, { on := 2, ground := Ground.phase }, { on := 3, ground := Ground.phase }, { on := 4, ground := Ground.phase }, { on := 5, ground := Ground.phase }, { on := 6, ground := Ground.phase }], guard := none }) rfl (fun K hK => ?_) (AllReadyH.nil)
              · skip
                have cz : x5.cell? ⟨x2.heap.size, 0, none⟩ = some (.slice none 0 0) := Blk.cell (show Blk x5 x2.heap.size 23 [.slice none 0 0] from HB5.out.say 3) 0
                have fz : x5.frozen? ⟨x2.heap.size, 0, none⟩ = false := Blk.frozen (show Blk x5 x2.heap.size 23 [.slice none 0 0] from HB5.out.say 3) 0
                go_simp
                obtain ⟨tg6, hb, ht⟩ := bag_set HB5.out 3 (by decide) (g := x2.heap.size) (e := 23) (cs := [.slice none 0 0]) rfl 0 (.slice (some ⟨x4.heap.size, 0, none⟩) n n)
                clear cz fz
                generalize x5.setCell ⟨x2.heap.size, 0, none⟩ (.slice (some ⟨x4.heap.size, 0, none⟩) n n) = x6 at *
                have HB6 := hide hb
                have HT6 := hide (HT5.out.trans ht)
                have hB6 : w.heap.size ≤ x6.heap.size := Nat.le_trans hB5 ht.tch.size
                clear hb ht
                refine hK.out _ _ trivial (fun _ => ?_)
                clear hK K
                try simp only [Act.put, List.setIfInBounds_toArray, List.set_cons_zero, List.set_cons_succ]
                refine wpAnyH_done (by kernel_rfl) ?_ _
                go_wp2_with fail
                go_meet
                case rel => exact ⟨_, x1.heap.size, x2.heap.size, Wd.heap.size, x4.heap.size, rfl, rfl, Bag.congr HB6.out (fun i => by match i with | 0 | 1 | 2 | 3 | 4 | 5 | 6 | 7 | 8 | 9 | 10 | 11 | 12 | 13 | 14 => rfl | k + 15 => rfl), HT6.out⟩
      · skip
        go_simp
        obtain ⟨tg2, hb, ht⟩ := bag_new HB1.out 3 (by decide) #[.slice none 0 0] 23
        generalize x1.alloc (.cells #[.slice none 0 0] 23) = x2 at *
        have HB2 := hide hb
        have HT2 := hide (HT1.out.trans ht)
        have hB2 : w.heap.size ≤ x2.heap.size := Nat.le_trans hB1 ht.tch.size
        clear hb ht
        refine hK.out _ _ trivial (fun _ => ?_)
        clear hK K
        try simp only [Act.put, List.setIfInBounds_toArray, List.set_cons_zero, List.set_cons_succ]
        refine wpAnyH_ready (rs := [3, 4]) (by kernel_rfl) (by simp) ?_
        refine AllReadyH.cons (o := { dst := some 32, op := Op.makeSlice 23 (Operand.tmp 31) (Operand.tmp 31), type := 23, pos := "walk.go:816", after := #[{ on := 2, ground := Ground.data }, { on := 2, ground := Ground.data }], guard := none }) rfl (fun K hK => ?_) (AllReadyH.cons (o := { dst := some 7, op := Op.alloc 23, type := 0, pos := "walk.go:816", after := #[], guard := none }) rfl (fun K hK => ?_) (AllReadyH.nil))
        · skip
          refine step_mk HB2.out 9 (by decide) (B := w.heap.size) hB2 rfl (.tmp 31) rfl n rfl (by omega) ?_
          intro x3 tg3 hb ht
          have HB3 := hide hb
          have HT3 := hide (HT2.out.trans ht)
          have hB3 : w.heap.size ≤ x3.heap.size := Nat.le_trans hB2 ht.tch.size
          clear hb ht
          refine hK.out _ _ trivial (fun _ => ?_)
          clear hK K
          try simp only [Act.put, List.setIfInBounds_toArray, List.set_cons_zero, List.set_cons_succ]
          refine wpAnyH_ready (rs := [4]) (by kernel_rfl) (by simp) ?_
          refine AllReadyH.cons (o := { dst := some 7, op := Op.alloc 23, type := 0, pos := "walk.go:816", after := #[], guard := none }) rfl (fun K hK => ?_) (AllReadyH.nil)
          · skip
            go_simp
            obtain ⟨tg4, hb, ht⟩ := bag_new HB3.out 2 (by decide) #[.slice none 0 0] 23
            generalize x3.alloc (.cells #[.slice none 0 0] 23) = x4 at *
            have HB4 := hide hb
            have HT4 := hide (HT3.out.trans ht)
            have hB4 : w.heap.size ≤ x4.heap.size := Nat.le_trans hB3 ht.tch.size
            clear hb ht
            refine hK.out _ _ trivial (fun _ => ?_)
            clear hK K
            try simp only [Act.put, List.setIfInBounds_toArray, List.set_cons_zero, List.set_cons_succ]
            refine wpAnyH_ready (rs := [6]) (by kernel_rfl) (by simp) ?_
            refine AllReadyH.cons (o := { dst := none, op := Op.store 23 (Operand.tmp 7) (Operand.tmp 30), type := 0, pos := "walk.go:816", after := #[{ on := 4, ground := Ground.data }, { on := 1, ground := Ground.data }, { on := 0, ground := Ground.phase }, { on := 1, ground := Ground.phase }, { on := 2, ground := Ground.textOnly Departure.lateStores }, { on := 3, ground := Ground.textOnly Departure.lateStoresUnsure }, { on := 4, ground := Ground.phase }, { on := 5, ground := Ground.phase }], guard := none }) rfl (fun K hK => ?_) (AllReadyH.nil)
            · skip
              have cz : x4.cell? ⟨x3.heap.size, 0, none⟩ = some (.slice none 0 0) := Blk.cell (show Blk x4 x3.heap.size 23 [.slice none 0 0] from HB4.out.say 2) 0
              have fz : x4.frozen? ⟨x3.heap.size, 0, none⟩ = false := Blk.frozen (show Blk x4 x3.heap.size 23 [.slice none 0 0] from HB4.out.say 2) 0
              go_simp
              obtain ⟨tg5, hb, ht⟩ := bag_set HB4.out 2 (by decide) (g := x3.heap.size) (e := 23) (cs := [.slice none 0 0]) rfl 0 (.slice (some ⟨Wd.heap.size, 0, none⟩) n n)
              clear cz fz
              generalize x4.setCell ⟨x3.heap.size, 0, none⟩ (.slice (some ⟨Wd.heap.size, 0, none⟩) n n) = x5 at *
              have HB5 := hide hb
              have HT5 := hide (HT4.out.trans ht)
              have hB5 : w.heap.size ≤ x5.heap.size := Nat.le_trans hB4 ht.tch.size
              clear hb ht
              refine hK.out _ _ trivial (fun _ => ?_)
              clear hK K
              try simp only [Act.put, List.setIfInBounds_toArray, List.set_cons_zero, List.set_cons_succ]
              refine wpAnyH_ready (rs := [7]) (by kernel_rfl) (by simp) ?_
              refine AllReadyH.cons (o := { dst := none, op := Op.store 23 (Operand.tmp 8) (Operand.tmp 32), type := 0, pos := "walk.go:816", after := #[{ on := 5, ground := Ground.data }, { on := 3, ground := Ground.data }, { on := 6, ground := Ground.chain }, { on := 0, ground := Ground.phase }, { on := 1, ground := Ground.phase }, { on := 2, ground := Ground.phase }, { on := 3, ground := Ground.phase }, { on := 4, ground := Ground.phase }, { on := 5, ground := Ground.phase }, { on := 6, ground := Ground.phase }], guard := none }) rfl (fun K hK => ?_) (AllReadyH.nil)
              · skip
                have cz : x5.cell? ⟨x1.heap.size, 0, none⟩ = some (.slice none 0 0) := Blk.cell (show Blk x5 x1.heap.size 23 [.slice none 0 0] from HB5.out.say 3) 0
                have fz : x5.frozen? ⟨x1.heap.size, 0, none⟩ = false := Blk.frozen (show Blk x5 x1.heap.size 23 [.slice none 0 0] from HB5.out.say 3) 0
                go_simp
                obtain ⟨tg6, hb, ht⟩ := bag_set HB5.out 3 (by decide) (g := x1.heap.size) (e := 23) (cs := [.slice none 0 0]) rfl 0 (.slice (some ⟨x2.heap.size, 0, none⟩) n n)
                clear cz fz
                generalize x5.setCell ⟨x1.heap.size, 0, none⟩ (.slice (some ⟨x2.heap.size, 0, none⟩) n n) = x6 at *
                have HB6 := hide hb
                have HT6 := hide (HT5.out.trans ht)
                have hB6 : w.heap.size ≤ x6.heap.size := Nat.le_trans hB5 ht.tch.size
                clear hb ht
                refine hK.out _ _ trivial (fun _ => ?_)
                clear hK K
                try simp only [Act.put, List.setIfInBounds_toArray, List.set_cons_zero, List.set_cons_succ]
                refine wpAnyH_done (by kernel_rfl) ?_ _
                go_wp2_with fail
                go_meet
                case rel => exact ⟨_, x3.heap.size, x1.heap.size, Wd.heap.size, x2.heap.size, rfl, rfl, Bag.congr HB6.out (fun i => by match i with | 0 | 1 | 2 | 3 | 4 | 5 | 6 | 7 | 8 | 9 | 10 | 11 | 12 | 13 | 14 => rfl | k + 15 => rfl), HT6.out⟩
        · skip
          go_simp
          obtain ⟨tg3, hb, ht⟩ := bag_new HB2.out 2 (by decide) #[.slice none 0 0] 23
          generalize x2.alloc (.cells #[.slice none 0 0] 23) = x3 at *
          have HB3 := hide hb
          have HT3 := hide (HT2.out.trans ht)
          have hB3 : w.heap.size ≤ x3.heap.size := Nat.le_trans hB2 ht.tch.size
          clear hb ht
          refine hK.out _ _ trivial (fun _ => ?_)
          clear hK K
          try simp only [Act.put, List.setIfInBounds_toArray, List.set_cons_zero, List.set_cons_succ]
          refine wpAnyH_ready (rs := [3, 6]) (by kernel_rfl) (by simp) ?_
          refine AllReadyH.cons (o := { dst := some 32, op := Op.makeSlice 23 (Operand.tmp 31) (Operand.tmp 31), type := 23, pos := "walk.go:816", after := #[{ on := 2, ground := Ground.data }, { on := 2, ground := Ground.data }], guard := none }) rfl (fun K hK => ?_) (AllReadyH.cons (o := { dst := none, op := Op.store 23 (Operand.tmp 7) (Operand.tmp 30), type := 0, pos := "walk.go:816", after := #[{ on := 4, ground := Ground.data }, { on := 1, ground := Ground.data }, { on := 0, ground := Ground.phase }, { on := 1, ground := Ground.phase }, { on := 2, ground := Ground.textOnly Departure.lateStores }, { on := 3, ground := Ground.textOnly Departure.lateStoresUnsure }, { on := 4, ground := Ground.phase }, { on := 5, ground := Ground.phase }], guard := none }) rfl (fun K hK => ?_) (AllReadyH.nil))
          · skip
            refine step_mk HB3.out 9 (by decide) (B := w.heap.size) hB3 rfl (.tmp 31) rfl n rfl (by omega) ?_
            intro x4 tg4 hb ht
            have HB4 := hide hb
            have HT4 := hide (HT3.out.trans ht)
            have hB4 : w.heap.size ≤ x4.heap.size := Nat.le_trans hB3 ht.tch.size
            clear hb ht
            refine hK.out _ _ trivial (fun _ => ?_)
            clear hK K
            try simp only [Act.put, List.setIfInBounds_toArray, List.set_cons_zero, List.set_cons_succ]
            refine wpAnyH_ready (rs := [6]) (by kernel_rfl) (by simp) ?_
            refine AllReadyH.cons (o := { dst := none, op := Op.store 23 (Operand.tmp 7) (Operand.tmp 30), type := 0, pos := "walk.go:816", after := #[{ on := 4, ground := Ground.data }, { on := 1, ground := Ground.data }, { on := 0, ground := Ground.phase }, { on := 1, ground := Ground.phase }, { on := 2, ground := Ground.textOnly Departure.lateStores }, { on := 3, ground := Ground.textOnly Departure.lateStoresUnsure }, { on := 4, ground := Ground.phase }, { on := 5, ground := Ground.phase }], guard := none }) rfl (fun K hK => ?_) (AllReadyH.nil)
            · skip
              have cz : x4.cell? ⟨x2.heap.size, 0, none⟩ = some (.slice none 0 0) := Blk.cell (show Blk x4 x2.heap.size 23 [.slice none 0 0] from HB4.out.say 2) 0
              have fz : x4.frozen? ⟨x2.heap.size, 0, none⟩ = false := Blk.frozen (show Blk x4 x2.heap.size 23 [.slice none 0 0] from HB4.out.say 2) 0
              go_simp
              obtain ⟨tg5, hb, ht⟩ := bag_set HB4.out 2 (by decide) (g := x2.heap.size) (e := 23) (cs := [.slice none 0 0]) rfl 0 (.slice (some ⟨Wd.heap.size, 0, none⟩) n n)
              clear cz fz
              generalize x4.setCell ⟨x2.heap.size, 0, none⟩ (.slice (some ⟨Wd.heap.size, 0, none⟩) n n) = x5 at *
              have HB5 := hide hb
              have HT5 := hide (HT4.out.trans ht)
              have hB5 : w.heap.size ≤ x5.heap.size := Nat.le_trans hB4 ht.tch.size
              clear hb ht
              refine hK.out _ _ trivial (fun _ => ?_)
              clear hK K
              try simp only [Act.put, List.setIfInBounds_toArray, List.set_cons_zero, List.set_cons_succ]
              refine wpAnyH_ready (rs := [7]) (by kernel_rfl) (by simp) ?_
              refine AllReadyH.cons (o := { dst := none, op := Op.store 23 (Operand.tmp 8) (Operand.tmp 32), type := 0, pos := "walk.go:816", after := #[{ on := 5, ground := Ground.data }, { on := 3, ground := Ground.data }, { on := 6, ground := Ground.chain }, { on := 0, ground := Ground.phase }, { on := 1, ground := Ground.phase }, { on := 2, ground := Ground.phase }, { on := 3, ground := Ground.phase }, { on := 4, ground := Ground.phase }, { on := 5, ground := Ground.phase }, { on := 6, ground := Ground.phase }], guard := none }) rfl (fun K hK => ?_) (AllReadyH.nil)
              · skip
                have cz : x5.cell? ⟨x1.heap.size, 0, none⟩ = some (.slice none 0 0) := Blk.cell (show Blk x5 x1.heap.size 23 [.slice none 0 0] from HB5.out.say 3) 0
                have fz : x5.frozen? ⟨x1.heap.size, 0, none⟩ = false := Blk.frozen (show Blk x5 x1.heap.size 23 [.slice none 0 0] from HB5.out.say 3) 0
                go_simp
                obtain ⟨tg6, hb, ht⟩ := bag_set HB5.out 3 (by decide) (g := x1.heap.size) (e := 23) (cs := [.slice none 0 0]) rfl 0 (.slice (some ⟨x3.heap.size, 0, none⟩) n n)
                clear cz fz
                generalize x5.setCell ⟨x1.heap.size, 0, none⟩ (.slice (some ⟨x3.heap.size, 0, none⟩) n n) = x6 at *
                have HB6 := hide hb
                have HT6 := hide (HT5.out.trans ht)
                have hB6 : w.heap.size ≤ x6.heap.size := Nat.le_trans hB5 ht.tch.size
                clear hb ht
                refine hK.out _ _ trivial (fun _ => ?_)
                clear hK K
                try simp only [Act.put, List.setIfInBounds_toArray, List.set_cons_zero, List.set_cons_succ]
                refine wpAnyH_done (by kernel_rfl) ?_ _
                go_wp2_with fail
                go_meet
                case rel => exact ⟨_, x2.heap.size, x1.heap.size, Wd.heap.size, x3.heap.size, rfl, rfl, Bag.congr HB6.out (fun i => by match i with | 0 | 1 | 2 | 3 | 4 | 5 | 6 | 7 | 8 | 9 | 10 | 11 | 12 | 13 | 14 => rfl | k + 15 => rfl), HT6.out⟩
          · skip
            have cz : x3.cell? ⟨x2.heap.size, 0, none⟩ = some (.slice none 0 0) := Blk.cell (show Blk x3 x2.heap.size 23 [.slice none 0 0] from HB3.out.say 2) 0
            have fz : x3.frozen? ⟨x2.heap.size, 0, none⟩ = false := Blk.frozen (show Blk x3 x2.heap.size 23 [.slice none 0 0] from HB3.out.say 2) 0
            go_simp
            obtain ⟨tg4, hb, ht⟩ := bag_set HB3.out 2 (by decide) (g := x2.heap.size) (e := 23) (cs := [.slice none 0 0]) rfl 0 (.slice (some ⟨Wd.heap.size, 0, none⟩) n n)
            clear cz fz
            generalize x3.setCell ⟨x2.heap.size, 0, none⟩ (.slice (some ⟨Wd.heap.size, 0, none⟩) n n) = x4 at *
            have HB4 := hide hb
            have HT4 := hide (HT3.out.trans ht)
            have hB4 : w.heap.size ≤ x4.heap.size := Nat.le_trans hB3 ht.tch.size
            clear hb ht
            refine hK.out _ _ trivial (fun _ => ?_)
            clear hK K
            try simp only [Act.put, List.setIfInBounds_toArray, List.set_cons_zero, List.set_cons_succ]
            refine wpAnyH_ready (rs := [3]) (by kernel_rfl) (by simp) ?_
            refine AllReadyH.cons (o := { dst := some 32, op := Op.makeSlice 23 (Operand.tmp 31) (Operand.tmp 31), type := 23, pos := "walk.go:816", after := #[{ on := 2, ground := Ground.data }, { on := 2, ground := Ground.data }], guard := none }) rfl (fun K hK => ?_) (AllReadyH.nil)
            · skip
              refine step_mk HB4.out 9 (by decide) (B := w.heap.size) hB4 rfl (.tmp 31) rfl n rfl (by omega) ?_
              intro x5 tg5 hb ht
              have HB5 := hide hb
              have HT5 := hide (HT4.out.trans ht)
              have hB5 : w.heap.size ≤ x5.heap.size := Nat.le_trans hB4 ht.tch.size
              clear hb ht
              refine hK.out _ _ trivial (fun _ => ?_)
              clear hK K
              try simp only [Act.put, List.setIfInBounds_toArray, List.set_cons_zero, List.set_cons_succ]
              refine wpAnyH_ready (rs := [7]) (by kernel_rfl) (by simp) ?_
              refine AllReadyH.cons (o := { dst := none, op := Op.store 23 (Operand.tmp 8) (Operand.tmp 32), type := 0, pos := "walk.go:816", after := #[{ on := 5, ground := Ground.data }, { on := 3, ground := Ground.data }, { on := 6, ground := Ground.chain }, { on := 0, ground := Ground.phase }, { on := 1, ground := Ground.phase }, { on := 2, ground := Ground.phase }, { on := 3, ground := Ground.phase }, { on := 4, ground := Ground.phase }, { on := 5, ground := Ground.phase }, { on := 6, ground := Ground.phase }], guard := none }) rfl (fun K hK => ?_) (AllReadyH.nil)
              · skip
                have cz : x5.cell? ⟨x1.heap.size, 0, none⟩ = some (.slice none 0 0) := Blk.cell (show Blk x5 x1.heap.size 23 [.slice none 0 0] from HB5.out.say 3) 0
                have fz : x5.frozen? ⟨x1.heap.size, 0, none⟩ = false := Blk.frozen (show Blk x5 x1.heap.size 23 [.slice none 0 0] from HB5.out.say 3) 0
                go_simp
                obtain ⟨tg6, hb, ht⟩ := bag_set HB5.out 3 (by decide) (g := x1.heap.size) (e := 23) (cs := [.slice none 0 0]) rfl 0 (.slice (some ⟨x4.heap.size, 0, none⟩) n n)
                clear cz fz
                generalize x5.setCell ⟨x1.heap.size, 0, none⟩ (.slice (some ⟨x4.heap.size, 0, none⟩) n n) = x6 at *
                have HB6 := hide hb
                have HT6 := hide (HT5.out.trans ht)
                have hB6 : w.heap.size ≤ x6.heap.size := Nat.le_trans hB5 ht.tch.size
                clear hb ht
                refine hK.out _ _ trivial (fun _ => ?_)
                clear hK K
                try simp only [Act.put, List.setIfInBounds_toArray, List.set_cons_zero, List.set_cons_succ]
                refine wpAnyH_done (by kernel_rfl) ?_ _
                go_wp2_with fail
                go_meet
                case rel => exact ⟨_, x2.heap.size, x1.heap.size, Wd.heap.size, x4.heap.size, rfl, rfl, Bag.congr HB6.out (fun i => by match i with | 0 | 1 | 2 | 3 | 4 | 5 | 6 | 7 | 8 | 9 | 10 | 11 | 12 | 13 | 14 => rfl | k + 15 => rfl), HT6.out⟩
    · skip
      refine step_mk HB0.out 9 (by decide) (B := w.heap.size) hB0 rfl (.tmp 31) rfl n rfl (by omega) ?_
      intro x1 tg1 hb ht
      have HB1 := hide hb
      have HT1 := hide (HT0.out.trans ht)
      have hB1 : w.heap.size ≤ x1.heap.size := Nat.le_trans hB0 ht.tch.size
      clear hb ht
      refine hK.out _ _ trivial (fun _ => ?_)
      clear hK K
      try simp only [Act.put, List.setIfInBounds_toArray, List.set_cons_zero, List.set_cons_succ]
      refine wpAnyH_ready (rs := [1, 4, 5]) (by kernel_rfl) (by simp) ?_
      refine AllReadyH.cons (o := { dst := some 30, op := Op.makeSlice 23 (Operand.tmp 29) (Operand.tmp 29), type := 23, pos := "walk.go:816", after := #[{ on := 0, ground := Ground.data }, { on := 0, ground := Ground.data }], guard := none }) rfl (fun K hK => ?_) (AllReadyH.cons (o := { dst := some 7, op := Op.alloc 23, type := 0, pos := "walk.go:816", after := #[], guard := none }) rfl (fun K hK => ?_) (AllReadyH.cons (o := { dst := some 8, op := Op.alloc 23, type := 0, pos := "walk.go:816", after := #[], guard := none }) rfl (fun K hK => ?_) (AllReadyH.nil)))
      · skip
        refine step_mk HB1.out 8 (by decide) (B := w.heap.size) hB1 rfl (.tmp 29) rfl n rfl (by omega) ?_
        intro x2 tg2 hb ht
        have HB2 := hide hb
        have HT2 := hide (HT1.out.trans ht)
        have hB2 : w.heap.size ≤ x2.heap.size := Nat.le_trans hB1 ht.tch.size
        clear hb ht
        refine hK.out _ _ trivial (fun _ => ?_)
        clear hK K
        try simp only [Act.put, List.setIfInBounds_toArray, List.set_cons_zero, List.set_cons_succ]
        refine wpAnyH_ready (rs := [4, 5]) (by kernel_rfl) (by simp) ?_
        refine AllReadyH.cons (o := { dst := some 7, op := Op.alloc 23, type := 0, pos := "walk.go:816", after := #[], guard := none }) rfl (fun K hK => ?_) (AllReadyH.cons (o := { dst := some 8, op := Op.alloc 23, type := 0, pos := "walk.go:816", after := #[], guard := none }) rfl (fun K hK => ?_) (AllReadyH.nil))
        · skip
          go_simp
          obtain ⟨tg3, hb, ht⟩ := bag_new HB2.out 2 (by decide) #[.slice none 0 0] 23
          generalize x2.alloc (.cells #[.slice none 0 0] 23) = x3 at *
          have HB3 := hide hb
          have HT3 := hide (HT2.out.trans ht)
          have hB3 : w.heap.size ≤ x3.heap.size := Nat.le_trans hB2 ht.tch.size
          clear hb ht
          refine hK.out _ _ trivial (fun _ => ?_)
          clear hK K
          try simp only [Act.put, List.setIfInBounds_toArray, List.set_cons_zero, List.set_cons_succ]
          refine wpAnyH_ready (rs := [5]) (by kernel_rfl) (by simp) ?_
          refine AllReadyH.cons (o := { dst := some 8, op := Op.alloc 23, type := 0, pos := "walk.go:816", after := #[], guard := none }) rfl (fun K hK => ?_) (AllReadyH.nil)
          · skip
            go_simp
            obtain ⟨tg4, hb, ht⟩ := bag_new HB3.out 3 (by decide) #[.slice none 0 0] 23
            generalize x3.alloc (.cells #[.slice none 0 0] 23) = x4 at *
            have HB4 := hide hb
            have HT4 := hide (HT3.out.trans ht)
            have hB4 : w.heap.size ≤ x4.heap.size := Nat.le_trans hB3 ht.tch.size
            clear hb ht
            refine hK.out _ _ trivial (fun _ => ?_)
            clear hK K
            try simp only [Act.put, List.setIfInBounds_toArray, List.set_cons_zero, List.set_cons_succ]
            refine wpAnyH_ready (rs := [6]) (by kernel_rfl) (by simp) ?_
            refine AllReadyH.cons (o := { dst := none, op := Op.store 23 (Operand.tmp 7) (Operand.tmp 30), type := 0, pos := "walk.go:816", after := #[{ on := 4, ground := Ground.data }, { on := 1, ground := Ground.data }, { on := 0, ground := Ground.phase }, { on := 1, ground := Ground.phase }, { on := 2, ground := Ground.textOnly Departure.lateStores }, { on := 3, ground := Ground.textOnly Departure.lateStoresUnsure }, { on := 4, ground := Ground.phase }, { on := 5, ground := Ground.phase }], guard := none }) rfl (fun K hK => ?_) (AllReadyH.nil)
            · skip
              have cz : x4.cell? ⟨x2.heap.size, 0, none⟩ = some (.slice none 0 0) := Blk.cell (show Blk x4 x2.heap.size 23 [.slice none 0 0] from HB4.out.say 2) 0
              have fz : x4.frozen? ⟨x2.heap.size, 0, none⟩ = false := Blk.frozen (show Blk x4 x2.heap.size 23 [.slice none 0 0] from HB4.out.say 2) 0
              go_simp
              obtain ⟨tg5, hb, ht⟩ := bag_set HB4.out 2 (by decide) (g := x2.heap.size) (e := 23) (cs := [.slice none 0 0]) rfl 0 (.slice (some ⟨x1.heap.size, 0, none⟩) n n)
              clear cz fz
              generalize x4.setCell ⟨x2.heap.size, 0, none⟩ (.slice (some ⟨x1.heap.size, 0, none⟩) n n) = x5 at *
              have HB5 := hide hb
              have HT5 := hide (HT4.out.trans ht)
              have hB5 : w.heap.size ≤ x5.heap.size := Nat.le_trans hB4 ht.tch.size
              clear hb ht
              refine hK.out _ _ trivial (fun _ => ?_)
              clear hK K
              try simp only [Act.put, List.setIfInBounds_toArray, List.set_cons_zero, List.set_cons_succ]
              refine wpAnyH_ready (rs := [7]) (by kernel_rfl) (by simp) ?_
              refine AllReadyH.cons (o := { dst := none, op := Op.store 23 (Operand.tmp 8) (Operand.tmp 32), type := 0, pos := "walk.go:816", after := #[{ on := 5, ground := Ground.data }, { on := 3, ground := Ground.data }, { on := 6, ground := Ground.chain }, { on := 0, ground := Ground.phase }, { on := 1, ground := Ground.phase }, { on := 2, ground := Ground.phase }, { on := 3, ground := Ground.phase }, { on := 4, ground := Ground.phase }, { on := 5, ground := Ground.phase }, { on := 6, ground := Ground.phase }], guard := none }) rfl (fun K hK => ?_) (AllReadyH.nil)
              · skip
                have cz : x5.cell? ⟨x3.heap.size, 0, none⟩ = some (.slice none 0 0) := Blk.cell (show Blk x5 x3.heap.size 23 [.slice none 0 0] from HB5.out.say 3) 0
                have fz : x5.frozen? ⟨x3.heap.size, 0, none⟩ = false := Blk.frozen (show Blk x5 x3.heap.size 23 [.slice none 0 0] from HB5.out.say 3) 0
                go_simp
                obtain ⟨tg6, hb, ht⟩ := bag_set HB5.out 3 (by decide) (g := x3.heap.size) (e := 23) (cs := [.slice none 0 0]) rfl 0 (.slice (some ⟨Wd.heap.size, 0, none⟩) n n)
                clear cz fz
                generalize x5.setCell ⟨x3.heap.size, 0, none⟩ (.slice (some ⟨Wd.heap.size, 0, none⟩) n n) = x6 at *
                have HB6 := hide hb
                have HT6 := hide (HT5.out.trans ht)
                have hB6 : w.heap.size ≤ x6.heap.size := Nat.le_trans hB5 ht.tch.size
                clear hb ht
                refine hK.out _ _ trivial (fun _ => ?_)
                clear hK K
                try simp only [Act.put, List.setIfInBounds_toArray, List.set_cons_zero, List.set_cons_succ]
                refine wpAnyH_done (by kernel_rfl) ?_ _
                go_wp2_with fail
                go_meet
                case rel => exact ⟨_, x2.heap.size, x3.heap.size, x1.heap.size, Wd.heap.size, rfl, rfl, Bag.congr HB6.out (fun i => by match i with | 0 | 1 | 2 | 3 | 4 | 5 | 6 | 7 | 8 | 9 | 10 | 11 | 12 | 13 | 14 => rfl | k + 15 => rfl), HT6.out⟩
        · skip
          go_simp
          obtain ⟨tg3, hb, ht⟩ := bag_new HB2.out 3 (by decide) #[.slice none 0 0] 23
          generalize x2.alloc (.cells #[.slice none 0 0] 23) = x3 at *
          have HB3 := hide hb
          have HT3 := hide (HT2.out.trans ht)
          have hB3 : w.heap.size ≤ x3.heap.size := Nat.le_trans hB2 ht.tch.size
          clear hb ht
          refine hK.out _ _ trivial (fun _ => ?_)
          clear hK K
          try simp only [Act.put, List.setIfInBounds_toArray, List.set_cons_zero, List.set_cons_succ]
          refine wpAnyH_ready (rs := [4]) (by kernel_rfl) (by simp) ?_
          refine AllReadyH.cons (o := { dst := some 7, op := Op.alloc 23, type := 0, pos := "walk.go:816", after := #[], guard := none }) rfl (fun K hK => ?_) (AllReadyH.nil)
          · skip
            go_simp
            obtain ⟨tg4, hb, ht⟩ := bag_new HB3.out 2 (by decide) #[.slice none 0 0] 23
            generalize x3.alloc (.cells #[.slice none 0 0] 23) = x4 at *
            have HB4 := hide hb
            have HT4 := hide (HT3.out.trans ht)
            have hB4 : w.heap.size ≤ x4.heap.size := Nat.le_trans hB3 ht.tch.size
            clear hb ht
            refine hK.out _ _ trivial (fun _ => ?_)
            clear hK K
            try simp only [Act.put, List.setIfInBounds_toArray, List.set_cons_zero, List.set_cons_succ]
            refine wpAnyH_ready (rs := [6]) (by kernel_rfl) (by simp) ?_
            refine AllReadyH.cons (o := { dst := none, op := Op.store 23 (Operand.tmp 7) (Operand.tmp 30), type := 0, pos := "walk.go:816", after := #[{ on := 4, ground := Ground.data }, { on := 1, ground := Ground.data }, { on := 0, ground := Ground.phase }, { on := 1, ground := Ground.phase }, { on := 2, ground := Ground.textOnly Departure.lateStores }, { on := 3, ground := Ground.textOnly Departure.lateStoresUnsure }, { on := 4, ground := Ground.phase }, { on := 5, ground := Ground.phase }], guard := none }) rfl (fun K hK => ?_) (AllReadyH.nil)
            · skip
              have cz : x4.cell? ⟨x3.heap.size, 0, none⟩ = some (.slice none 0 0) := Blk.cell (show Blk x4 x3.heap.size 23 [.slice none 0 0] from HB4.out.say 2) 0
              have fz : x4.frozen? ⟨x3.heap.size, 0, none⟩ = false := Blk.frozen (show Blk x4 x3.heap.size 23 [.slice none 0 0] from HB4.out.say 2) 0
              go_simp
              obtain ⟨tg5, hb, ht⟩ := bag_set HB4.out 2 (by decide) (g := x3.heap.size) (e := 23) (cs := [.slice none 0 0]) rfl 0 (.slice (some ⟨x1.heap.size, 0, none⟩) n n)
              clear cz fz
              generalize x4.setCell ⟨x3.heap.size, 0, none⟩ (.slice (some ⟨x1.heap.size, 0, none⟩) n n) = x5 at *
              have HB5 := hide hb
              have HT5 := hide (HT4.out.trans ht)
              have hB5 : w.heap.size ≤ x5.heap.size := Nat.le_trans hB4 ht.tch.size
              clear hb ht
              refine hK.out _ _ trivial (fun _ => ?_)
              clear hK K
              try simp only [Act.put, List.setIfInBounds_toArray, List.set_cons_zero, List.set_cons_succ]
              refine wpAnyH_ready (rs := [7]) (by kernel_rfl) (by simp) ?_
              refine AllReadyH.cons (o := { dst := none, op := Op.store 23 (Operand.tmp 8) (Operand.tmp 32), type := 0, pos := "walk.go:816", after := #[{ on := 5, ground := Ground.data }, { on := 3, ground := Ground.data }, { on := 6, ground := Ground.chain }, { on := 0, ground := Ground.phase }, { on := 1, ground := Ground.phase }, { on := 2, ground := Ground.phase }, { on := 3, ground := Ground.phase }, { on := 4, ground := Ground.phase }, { on := 5, ground := Ground.phase }, { on := 6, ground := Ground.phase }], guard := none }) rfl (fun K hK => ?_) (AllReadyH.nil)
              · skip
                have cz : x5.cell? ⟨x2.heap.size, 0, none⟩ = some (.slice none 0 0) := Blk.cell (show Blk x5 x2.heap.size 23 [.slice none 0 0] from HB5.out.say 3) 0
                have fz : x5.frozen? ⟨x2.heap.size, 0, none⟩ = false := Blk.frozen (show Blk x5 x2.heap.size 23 [.slice none 0 0] from HB5.out.say 3) 0
                go_simp
                obtain ⟨tg6, hb, ht⟩ := bag_set HB5.out 3 (by decide) (g := x2.heap.size) (e := 23) (cs := [.slice none 0 0]) rfl 0 (.slice (some ⟨Wd.heap.size, 0, none⟩) n n)
                clear cz fz
                generalize x5.setCell ⟨x2.heap.size, 0, none⟩ (.slice (some ⟨Wd.heap.size, 0, none⟩) n n) = x6 at *
                have HB6 := hide hb
                have HT6 := hide (HT5.out.trans ht)
                have hB6 : w.heap.size ≤ x6.heap.size := Nat.le_trans hB5 ht.tch.size
                clear hb ht
                refine hK.out _ _ trivial (fun _ => ?_)
                clear hK K
                try simp only [Act.put, List.setIfInBounds_toArray, List.set_cons_zero, List.set_cons_succ]
                refine wpAnyH_done (by kernel_rfl) ?_ _
                go_wp2_with fail
                go_meet
                case rel => exact ⟨_, x3.heap.size, x2.heap.size, x1.heap.size, Wd.heap.size, rfl, rfl, Bag.congr HB6.out (fun i => by match i with | 0 | 1 | 2 | 3 | 4 | 5 | 6 | 7 | 8 | 9 | 10 | 11 | 12 | 13 | 14 => rfl | k + 15 => rfl), HT6.out⟩
      · skip
        go_simp
        obtain ⟨tg2, hb, ht⟩ := bag_new HB1.out 2 (by decide) #[.slice none 0 0] 23
        generalize x1.alloc (.cells #[.slice none 0 0] 23) = x2 at *
        have HB2 := hide hb
        have HT2 := hide (HT1.out.trans ht)
        have hB2 : w.heap.size ≤ x2.heap.size := Nat.le_trans hB1 ht.tch.size
        clear hb ht
        refine hK.out _ _ trivial (fun _ => ?_)
        clear hK K
        try simp only [Act.put, List.setIfInBounds_toArray, List.set_cons_zero, List.set_cons_succ]
        refine wpAnyH_ready (rs := [1, 5]) (by kernel_rfl) (by simp) ?_
        refine AllReadyH.cons (o := { dst := some 30, op := Op.makeSlice 23 (Operand.tmp 29) (Operand.tmp 29), type := 23, pos := "walk.go:816", after := #[{ on := 0, ground := Ground.data }, { on := 0, ground := Ground.data }], guard := none }) rfl (fun K hK => ?_) (AllReadyH.cons (o := { dst := some 8, op := Op.alloc 23, type := 0, pos := "walk.go:816", after := #[], guard := none }) rfl (fun K hK => ?_) (AllReadyH.nil))
        · skip
          refine step_mk HB2.out 8 (by decide) (B := w.heap.size) hB2 rfl (.tmp 29) rfl n rfl (by omega) ?_
          intro x3 tg3 hb ht
          have HB3 := hide hb
          have HT3 := hide (HT2.out.trans ht)
          have hB3 : w.heap.size ≤ x3.heap.size := Nat.le_trans hB2 ht.tch.size
          clear hb ht
          refine hK.out _ _ trivial (fun _ => ?_)
          clear hK K
          try simp only [Act.put, List.setIfInBounds_toArray, List.set_cons_zero, List.set_cons_succ]
          refine wpAnyH_ready (rs := [5]) (by kernel_rfl) (by simp) ?_
          refine AllReadyH.cons (o := { dst := some 8, op := Op.alloc 23, type := 0, pos := "walk.go:816", after := #[], guard := none }) rfl (fun K hK => ?_) (AllReadyH.nil)
          · skip
            go_simp
            obtain ⟨tg4, hb, ht⟩ := bag_new HB3.out 3 (by decide) #[.slice none 0 0] 23
            generalize x3.alloc (.cells #[.slice none 0 0] 23) = x4 at *
            have HB4 := hide hb
            have HT4 := hide (HT3.out.trans ht)
            have hB4 : w.heap.size ≤ x4.heap.size := Nat.le_trans hB3 ht.tch.size
            clear hb ht
            refine hK.out _ _ trivial (fun _ => ?_)
            clear hK K
            try simp only [Act.put, List.setIfInBounds_toArray, List.set_cons_zero, List.set_cons_succ]
            refine wpAnyH_ready (rs := [6]) (by kernel_rfl) (by simp) ?_
            refine AllReadyH.cons (o := { dst := none, op := Op.store 23 (Operand.tmp 7) (Operand.tmp 30), type := 0, pos := "walk.go:816", after := #[{ on := 4, ground := Ground.data }, { on := 1, ground := Ground.data }, { on := 0, ground := Ground.phase }, { on := 1, ground := Ground.phase }, { on := 2, ground := Ground.textOnly Departure.lateStores }, { on := 3, ground := Ground.textOnly Departure.lateStoresUnsure }, { on := 4, ground := Ground.phase }, { on := 5, ground := Ground.phase }], guard := none }) rfl (fun K hK => ?_) (AllReadyH.nil)
            · skip
              have cz : x4.cell? ⟨x1.heap.size, 0, none⟩ = some (.slice none 0 0) := Blk.cell (show Blk x4 x1.heap.size 23 [.slice none 0 0] from HB4.out.say 2) 0
              have fz : x4.frozen? ⟨x1.heap.size, 0, none⟩ = false := Blk.frozen (show Blk x4 x1.heap.size 23 [.slice none 0 0] from HB4.out.say 2) 0
              go_simp
              obtain ⟨tg5, hb, ht⟩ := bag_set HB4.out 2 (by decide) (g := x1.heap.size) (e := 23) (cs := [.slice none 0 0]) rfl 0 (.slice (some ⟨x2.heap.size, 0, none⟩) n n)
              clear cz fz
              generalize x4.setCell ⟨x1.heap.size, 0, none⟩ (.slice (some ⟨x2.heap.size, 0, none⟩) n n) = x5 at *
              have HB5 := hide hb
              have HT5 := hide (HT4.out.trans ht)
              have hB5 : w.heap.size ≤ x5.heap.size := Nat.le_trans hB4 ht.tch.size
              clear hb ht
              refine hK.out _ _ trivial (fun _ => ?_)
              clear hK K
              try simp only [Act.put, List.setIfInBounds_toArray, List.set_cons_zero, List.set_cons_succ]
              refine wpAnyH_ready (rs := [7]) (by kernel_rfl) (by simp) ?_
              refine AllReadyH.cons (o := { dst := none, op := Op.store 23 (Operand.tmp 8) (Operand.tmp 32), type := 0, pos := "walk.go:816", after := #[{ on := 5, ground := Ground.data }, { on := 3, ground := Ground.data }, { on := 6, ground := Ground.chain }, { on := 0, ground := Ground.phase }, { on := 1, ground := Ground.phase }, { on := 2, ground := Ground.phase }, { on := 3, ground := Ground.phase }, { on := 4, ground := Ground.phase }, { on := 5, ground := Ground.phase }, { on := 6, ground := Ground.phase }], guard := none }) rfl (fun K hK => ?_) (AllReadyH.nil)
              · skip
                have cz : x5.cell? ⟨x3.heap.size, 0, none⟩ = some (.slice none 0 0) := Blk.cell (show Blk x5 x3.heap.size 23 [.slice none 0 0] from HB5.out.say 3) 0
                have fz : x5.frozen? ⟨x3.heap.size, 0, none⟩ = false := Blk.frozen (show Blk x5 x3.heap.size 23 [.slice none 0 0] from HB5.out.say 3) 0
                go_simp
                obtain ⟨tg6, hb, ht⟩ := bag_set HB5.out 3 (by decide) (g := x3.heap.size) (e := 23) (cs := [.slice none 0 0]) rfl 0 (.slice (some ⟨Wd.heap.size, 0, none⟩) n n)
                clear cz fz
                generalize x5.setCell ⟨x3.heap.size, 0, none⟩ (.slice (some ⟨Wd.heap.size, 0, none⟩) n n) = x6 at *
                have HB6 := hide hb
                have HT6 := hide (HT5.out.trans ht)
                have hB6 : w.heap.size ≤ x6.heap.size := Nat.le_trans hB5 ht.tch.size
                clear hb ht
                refine hK.out _ _ trivial (fun _ => ?_)
                clear hK K
                try simp only [Act.put, List.setIfInBounds_toArray, List.set_cons_zero, List.set_cons_succ]
                refine wpAnyH_done (by kernel_rfl) ?_ _
                go_wp2_with fail
                go_meet
                case rel => exact ⟨_, x1.heap.size, x3.heap.size, x2.heap.size, Wd.heap.size, rfl, rfl, Bag.congr HB6.out (fun i => by match i with | 0 | 1 | 2 | 3 | 4 | 5 | 6 | 7 | 8 | 9 | 10 | 11 | 12 | 13 | 14 => rfl | k + 15 => rfl), HT6.out⟩
        · skip
          go_simp
          obtain ⟨tg3, hb, ht⟩ := bag_new HB2.out 3 (by decide) #[.slice none 0 0] 23
          generalize x2.alloc (.cells #[.slice none 0 0] 23) = x3 at *
          have HB3 := hide hb
          have HT3 := hide (HT2.out.trans ht)
          have hB3 : w.heap.size ≤ x3.heap.size := Nat.le_trans hB2 ht.tch.size
          clear hb ht
          refine hK.out _ _ trivial (fun _ => ?_)
          clear hK K
          try simp only [Act.put, List.setIfInBounds_toArray, List.set_cons_zero, List.set_cons_succ]
          refine wpAnyH_ready (rs := [1]) (by kernel_rfl) (by simp) ?_
          refine AllReadyH.cons (o := { dst := some 30, op := Op.makeSlice 23 (Operand.tmp 29) (Operand.tmp 29), type := 23, pos := "walk.go:816", after := #[{ on := 0, ground := Ground.data }, { on := 0, ground := Ground.data }], guard := none }) rfl (fun K hK => ?_) (AllReadyH.nil)
          · skip
            refine step_mk HB3.out 8 (by decide) (B := w.heap.size) hB3 rfl (.tmp 29) rfl n rfl (by omega) ?_
            intro x4 tg4 hb ht
            have HB4 := hide hb
            have HT4 := hide (HT3.out.trans ht)
            have hB4 : w.heap.size ≤ x4.heap.size := Nat.le_trans hB3 ht.tch.size
            clear hb ht
            refine hK.out _ _ trivial (fun _ => ?_)
            clear hK K
            try simp only [Act.put, List.setIfInBounds_toArray, List.set_cons_zero, List.set_cons_succ]
            refine wpAnyH_ready (rs := [6]) (by kernel_rfl) (by simp) ?_
            refine AllReadyH.cons (o := { dst := none, op := Op.store 23 (Operand.tmp 7) (Operand.tmp 30), type := 0, pos := "walk.go:816", after := #[{ on := 4, ground := Ground.data }, { on := 1, ground := Ground.data }, { on := 0, ground := Ground.phase }, { on := 1, ground := Ground.phase }, { on := 2, ground := Ground.textOnly Departure.lateStores }, { on := 3, ground := Ground.textOnly Departure.lateStoresUnsure }, { on := 4, ground := Ground.phase }, { on := 5, ground := Ground.phase }], guard := none }) rfl (fun K hK => ?_) (AllReadyH.nil)
            · skip
              have cz : x4.cell? ⟨x1.heap.size, 0, none⟩ = some (.slice none 0 0) := Blk.cell (show Blk x4 x1.heap.size 23 [.slice none 0 0] from HB4.out.say 2) 0
              have fz : x4.frozen? ⟨x1.heap.size, 0, none⟩ = false := Blk.frozen (show Blk x4 x1.heap.size 23 [.slice none 0 0] from HB4.out.say 2) 0
              go_simp
              obtain ⟨tg5, hb, ht⟩ := bag_set HB4.out 2 (by decide) (g := x1.heap.size) (e := 23) (cs := [.slice none 0 0]) rfl 0 (.slice (some ⟨x3.heap.size, 0, none⟩) n n)
              clear cz fz
              generalize x4.setCell ⟨x1.heap.size, 0, none⟩ (.slice (some ⟨x3.heap.size, 0, none⟩) n n) = x5 at *
              have HB5 := hide hb
              have HT5 := hide (HT4.out.trans ht)
              have hB5 : w.heap.size ≤ x5.heap.size := Nat.le_trans hB4 ht.tch.size
              clear hb ht
              refine hK.out _ _ trivial (fun _ => ?_)
              clear hK K
              try simp only [Act.put, List.setIfInBounds_toArray, List.set_cons_zero, List.set_cons_succ]
              refine wpAnyH_ready (rs := [7]) (by kernel_rfl) (by simp) ?_
              refine AllReadyH.cons (o := { dst := none, op := Op.store 23 (Operand.tmp 8) (Operand.tmp 32), type := 0, pos := "walk.go:816", after := #[{ on := 5, ground := Ground.data }, { on := 3, ground := Ground.data }, { on := 6, ground := Ground.chain }, { on := 0, ground := Ground.phase }, { on := 1, ground := Ground.phase }, { on := 2, ground := Ground.phase }, { on := 3, ground := Ground.phase }, { on := 4, ground := Ground.phase }, { on := 5, ground := Ground.phase }, { on := 6, ground := Ground.phase }], guard := none }) rfl (fun K hK => ?_) (AllReadyH.nil)
              · skip
                have cz : x5.cell? ⟨x2.heap.size, 0, none⟩ = some (.slice none 0 0) := Blk.cell (show Blk x5 x2.heap.size 23 [.slice none 0 0] from HB5.out.say 3) 0
                have fz : x5.frozen? ⟨x2.heap.size, 0, none⟩ = false := Blk.frozen (show Blk x5 x2.heap.size 23 [.slice none 0 0] from HB5.out.say 3) 0
                go_simp
                obtain ⟨tg6, hb, ht⟩ := bag_set HB5.out 3 (by decide) (g := x2.heap.size) (e := 23) (cs := [.slice none 0 0]) rfl 0 (.slice (some ⟨Wd.heap.size, 0, none⟩) n n)
                clear cz fz
                generalize x5.setCell ⟨x2.heap.size, 0, none⟩ (.slice (some ⟨Wd.heap.size, 0, none⟩) n n) = x6 at *
                have HB6 := hide hb
                have HT6 := hide (HT5.out.trans ht)
                have hB6 : w.heap.size ≤ x6.heap.size := Nat.le_trans hB5 ht.tch.size
                clear hb ht
                refine hK.out _ _ trivial (fun _ => ?_)
                clear hK K
                try simp only [Act.put, List.setIfInBounds_toArray, List.set_cons_zero, List.set_cons_succ]
                refine wpAnyH_done (by kernel_rfl) ?_ _
                go_wp2_with fail
                go_meet
                case rel => exact ⟨_, x1.heap.size, x2.heap.size, x3.heap.size, Wd.heap.size, rfl, rfl, Bag.congr HB6.out (fun i => by match i with | 0 | 1 | 2 | 3 | 4 | 5 | 6 | 7 | 8 | 9 | 10 | 11 | 12 | 13 | 14 => rfl | k + 15 => rfl), HT6.out⟩
      · skip
        go_simp
        obtain ⟨tg2, hb, ht⟩ := bag_new HB1.out 3 (by decide) #[.slice none 0 0] 23
        generalize x1.alloc (.cells #[.slice none 0 0] 23) = x2 at *
        have HB2 := hide hb
        have HT2 := hide (HT1.out.trans ht)
        have hB2 : w.heap.size ≤ x2.heap.size := Nat.le_trans hB1 ht.tch.size
        clear hb ht
        refine hK.out _ _ trivial (fun _ => ?_)
        clear hK K
        try simp only [Act.put, List.setIfInBounds_toArray, List.set_cons_zero, List.set_cons_succ]
        refine wpAnyH_ready (rs := [1, 4]) (by kernel_rfl) (by simp) ?_
        refine AllReadyH.cons (o := { dst := some 30, op := Op.makeSlice 23 (Operand.tmp 29) (Operand.tmp 29), type := 23, pos := "walk.go:816", after := #[{ on := 0, ground := Ground.data }, { on := 0, ground := Ground.data }], guard := none }) rfl (fun K hK => ?_) (AllReadyH.cons (o := { dst := some 7, op := Op.alloc 23, type := 0, pos := "walk.go:816", after := #[], guard := none }) rfl (fun K hK => ?_) (AllReadyH.nil))
        · skip
          refine step_mk HB2.out 8 (by decide) (B := w.heap.size) hB2 rfl (.tmp 29) rfl n rfl (by omega) ?_
          intro x3 tg3 hb ht
          have HB3 := hide hb
          have HT3 := hide (HT2.out.trans ht)
          have hB3 : w.heap.size ≤ x3.heap.size := Nat.le_trans hB2 ht.tch.size
          clear hb ht
          refine hK.out _ _ trivial (fun _ => ?_)
          clear hK K
          try simp only [Act.put, List.setIfInBounds_toArray, List.set_cons_zero, List.set_cons_succ]
          refine wpAnyH_ready (rs := [4]) (by kernel_rfl) (by simp) ?_
          refine AllReadyH.cons (o := { dst := some 7, op := Op.alloc 23, type := 0, pos := "walk.go:816", after := #[], guard := none }) rfl (fun K hK => ?_) (AllReadyH.nil)
          · skip
            go_simp
            obtain ⟨tg4, hb, ht⟩ := bag_new HB3.out 2 (by decide) #[.slice none 0 0] 23
            generalize x3.alloc (.cells #[.slice none 0 0] 23) = x4 at *
            have HB4 := hide hb
            have HT4 := hide (HT3.out.trans ht)
            have hB4 : w.heap.size ≤ x4.heap.size := Nat.le_trans hB3 ht.tch.size
            clear hb ht
            refine hK.out _ _ trivial (fun _ => ?_)
            clear hK K
            try simp only [Act.put, List.setIfInBounds_toArray, List.set_cons_zero, List.set_cons_succ]
            refine wpAnyH_ready (rs := [6]) (by kernel_rfl) (by simp) ?_
            refine AllReadyH.cons (o := { dst := none, op := Op.store 23 (Operand.tmp 7) (Operand.tmp 30), type := 0, pos := "walk.go:816", after := #[{ on := 4, ground := Ground.data }, { on := 1, ground := Ground.data }, { on := 0, ground := Ground.phase }, { on := 1, ground := Ground.phase }, { on := 2, ground := Ground.textOnly Departure.lateStores }, { on := 3, ground := Ground.textOnly Departure.lateStoresUnsure }, { on := 4, ground := Ground.phase }, { on := 5, ground := Ground.phase }], guard := none }) rfl (fun K hK => ?_) (AllReadyH.nil)
            · skip
              have cz : x4.cell? ⟨x3.heap.size, 0, none⟩ = some (.slice none 0 0) := Blk.cell (show Blk x4 x3.heap.size 23 [.slice none 0 0] from HB4.out.say 2) 0
              have fz : x4.frozen? ⟨x3.heap.size, 0, none⟩ = false := Blk.frozen (show Blk x4 x3.heap.size 23 [.slice none 0 0] from HB4.out.say 2) 0
              go_simp
              obtain ⟨tg5, hb, ht⟩ := bag_set HB4.out 2 (by decide) (g := x3.heap.size) (e := 23) (cs := [.slice none 0 0]) rfl 0 (.slice (some ⟨x2.heap.size, 0, none⟩) n n)
              clear cz fz
              generalize x4.setCell ⟨x3.heap.size, 0, none⟩ (.slice (some ⟨x2.heap.size, 0, none⟩) n n) = x5 at *
              have HB5 := hide hb
              have HT5 := hide (HT4.out.trans ht)
              have hB5 : w.heap.size ≤ x5.heap.size := Nat.le_trans hB4 ht.tch.size
              clear hb ht
              refine hK.out _ _ trivial (fun _ => ?_)
              clear hK K
              try simp only [Act.put, List.setIfInBounds_toArray, List.set_cons_zero, List.set_cons_succ]
              refine wpAnyH_ready (rs := [7]) (by kernel_rfl) (by simp) ?_
              refine AllReadyH.cons (o := { dst := none, op := Op.store 23 (Operand.tmp 8) (Operand.tmp 32), type := 0, pos := "walk.go:816", after := #[{ on := 5, ground := Ground.data }, { on := 3, ground := Ground.data }, { on := 6, ground := Ground.chain }, { on := 0, ground := Ground.phase }, { on := 1, ground := Ground.phase }, { on := 2, ground := Ground.phase }, { on := 3, ground := Ground.phase }, { on := 4, ground := Ground.phase }, { on := 5, ground := Ground.phase }, { on := 6, ground := Ground.phase }], guard := none }) rfl (fun K hK => ?_) (AllReadyH.nil)
              · skip
                have cz : x5.cell? ⟨x1.heap.size, 0, none⟩ = some (.slice none 0 0) := Blk.cell (show Blk x5 x1.heap.size 23 [.slice none 0 0] from HB5.out.say 3) 0
                have fz : x5.frozen? ⟨x1.heap.size, 0, none⟩ = false := Blk.frozen (show Blk x5 x1.heap.size 23 [.slice none 0 0] from HB5.out.say 3) 0
                go_simp
                obtain ⟨tg6, hb, ht⟩ := bag_set HB5.out 3 (by decide) (g := x1.heap.size) (e := 23) (cs := [.slice none 0 0]) rfl 0 (.slice (some ⟨Wd.heap.size, 0, none⟩) n n)
                clear cz fz
                generalize x5.setCell ⟨x1.heap.size, 0, none⟩ (.slice (some ⟨Wd.heap.size, 0, none⟩) n n) = x6 at *
                have HB6 := hide hb
                have HT6 := hide (HT5.out.trans ht)
                have hB6 : w.heap.size ≤ x6.heap.size := Nat.le_trans hB5 ht.tch.size
                clear hb ht
                refine hK.out _ _ trivial (fun _ => ?_)
                clear hK K
                try simp only [Act.put, List.setIfInBounds_toArray, List.set_cons_zero, List.set_cons_succ]
                refine wpAnyH_done (by kernel_rfl) ?_ _
                go_wp2_with fail
                go_meet
                case rel => exact ⟨_, x3.heap.size, x1.heap.size, x2.heap.size, Wd.heap.size, rfl, rfl, Bag.congr HB6.out (fun i => by match i with | 0 | 1 | 2 | 3 | 4 | 5 | 6 | 7 | 8 | 9 | 10 | 11 | 12 | 13 | 14 => rfl | k + 15 => rfl), HT6.out⟩
        · skip
          go_simp
          obtain ⟨tg3, hb, ht⟩ := bag_new HB2.out 2 (by decide) #[.slice none 0 0] 23
          generalize x2.alloc (.cells #[.slice none 0 0] 23) = x3 at *
          have HB3 := hide hb
          have HT3 := hide (HT2.out.trans ht)
          have hB3 : w.heap.size ≤ x3.heap.size := Nat.le_trans hB2 ht.tch.size
          clear hb ht
          refine hK.out _ _ trivial (fun _ => ?_)
          clear hK K
          try simp only [Act.put, List.setIfInBounds_toArray, List.set_cons_zero, List.set_cons_succ]
          refine wpAnyH_ready (rs := [1]) (by kernel_rfl) (by simp) ?_
          refine AllReadyH.cons (o := { dst := some 30, op := Op.makeSlice 23 (Operand.tmp 29) (Operand.tmp 29), type := 23, pos := "walk.go:816", after := #[{ on := 0, ground := Ground.data }, { on := 0, ground := Ground.data }], guard := none }) rfl (fun K hK => ?_) (AllReadyH.nil)
          · skip
            refine step_mk HB3.out 8 (by decide) (B := w.heap.size) hB3 rfl (.tmp 29) rfl n rfl (by omega) ?_
            intro x4 tg4 hb ht
            have HB4 := hide hb
            have HT4 := hide (HT3.out.trans ht)
            have hB4 : w.heap.size ≤ x4.heap.size := Nat.le_trans hB3 ht.tch.size
            clear hb ht
            refine hK.out _ _ trivial (fun _ => ?_)
            clear hK K
            try simp only [Act.put, List.setIfInBounds_toArray, List.set_cons_zero, List.set_cons_succ]
            refine wpAnyH_ready (rs := [6]) (by kernel_rfl) (by simp) ?_
            refine AllReadyH.cons (o := { dst := none, op := Op.store 23 (Operand.tmp 7) (Operand.tmp 30), type := 0, pos := "walk.go:816", after := #[{ on := 4, ground := Ground.data }, { on := 1, ground := Ground.data }, { on := 0, ground := Ground.phase }, { on := 1, ground := Ground.phase }, { on := 2, ground := Ground.textOnly Departure.lateStores }, { on := 3, ground := Ground.textOnly Departure.lateStoresUnsure }, { on := 4, ground := Ground.phase }, { on := 5, ground := Ground.phase }], guard := none }) rfl (fun K hK => ?_) (AllReadyH.nil)
            · skip
              have cz : x4.cell? ⟨x2.heap.size, 0, none⟩ = some (.slice none 0 0) := Blk.cell (show Blk x4 x2.heap.size 23 [.slice none 0 0] from HB4.out.say 2) 0
              have fz : x4.frozen? ⟨x2.heap.size, 0, none⟩ = false := Blk.frozen (show Blk x4 x2.heap.size 23 [.slice none 0 0] from HB4.out.say 2) 0
              go_simp
              obtain ⟨tg5, hb, ht⟩ := bag_set HB4.out 2 (by decide) (g := x2.heap.size) (e := 23) (cs := [.slice none 0 0]) rfl 0 (.slice (some ⟨x3.heap.size, 0, none⟩) n n)
              clear cz fz
              generalize x4.setCell ⟨x2.heap.size, 0, none⟩ (.slice (some ⟨x3.heap.size, 0, none⟩) n n) = x5 at *
              have HB5 := hide hb
              have HT5 := hide (HT4.out.trans ht)
              have hB5 : w.heap.size ≤ x5.heap.size := Nat.le_trans hB4 ht.tch.size
              clear hb ht
              refine hK.out _ _ trivial (fun _ => ?_)
              clear hK K
              try simp only [Act.put, List.setIfInBounds_toArray, List.set_cons_zero, List.set_cons_succ]
              refine wpAnyH_ready (rs := [7]) (by kernel_rfl) (by simp) ?_
              refine AllReadyH.cons (o := { dst := none, op := Op.store 23 (Operand.tmp 8) (Operand.tmp 32), type := 0, pos := "walk.go:816", after := #[{ on := 5, ground := Ground.data }, { on := 3, ground := Ground.data }, { on := 6, ground := Ground.chain }, { on := 0, ground := Ground.phase }, { on := 1, ground := Ground.phase }, { on := 2, ground := Ground.phase }, { on := 3, ground := Ground.phase }, { on := 4, ground := Ground.phase }, { on := 5, ground := Ground.phase }, { on := 6, ground := Ground.phase }], guard := none }) rfl (fun K hK => ?_) (AllReadyH.nil)
              · skip
                have cz : x5.cell? ⟨x1.heap.size, 0, none⟩ = some (.slice none 0 0) := Blk.cell (show Blk x5 x1.heap.size 23 [.slice none 0 0] from HB5.out.say 3) 0
                have fz : x5.frozen? ⟨x1.heap.size, 0, none⟩ = false := Blk.frozen (show Blk x5 x1.heap.size 23 [.slice none 0 0] from HB5.out.say 3) 0
                go_simp
                obtain ⟨tg6, hb, ht⟩ := bag_set HB5.out 3 (by decide) (g := x1.heap.size) (e := 23) (cs := [.slice none 0 0]) rfl 0 (.slice (some ⟨Wd.heap.size, 0, none⟩) n n)
                clear cz fz
                generalize x5.setCell ⟨x1.heap.size, 0, none⟩ (.slice (some ⟨Wd.heap.size, 0, none⟩) n n) = x6 at *
                have HB6 := hide hb
                have HT6 := hide (HT5.out.trans ht)
                have hB6 : w.heap.size ≤ x6.heap.size := Nat.le_trans hB5 ht.tch.size
                clear hb ht
                refine hK.out _ _ trivial (fun _ => ?_)
                clear hK K
                try simp only [Act.put, List.setIfInBounds_toArray, List.set_cons_zero, List.set_cons_succ]
                refine wpAnyH_done (by kernel_rfl) ?_ _
                go_wp2_with fail
                go_meet
                case rel => exact ⟨_, x2.heap.size, x1.heap.size, x3.heap.size, Wd.heap.size, rfl, rfl, Bag.congr HB6.out (fun i => by match i with | 0 | 1 | 2 | 3 | 4 | 5 | 6 | 7 | 8 | 9 | 10 | 11 | 12 | 13 | 14 => rfl | k + 15 => rfl), HT6.out⟩
    · skip
      go_simp
      obtain ⟨tg1, hb, ht⟩ := bag_new HB0.out 2 (by decide) #[.slice none 0 0] 23
      generalize Wd.alloc (.cells #[.slice none 0 0] 23) = x1 at *
      have HB1 := hide hb
      have HT1 := hide (HT0.out.trans ht)
      have hB1 : w.heap.size ≤ x1.heap.size := Nat.le_trans hB0 ht.tch.size
      clear hb ht
      refine hK.out _ _ trivial (fun _ => ?_)
      clear hK K
      try simp only [Act.put, List.setIfInBounds_toArray, List.set_cons_zero, List.set_cons_succ]
      refine wpAnyH_ready (rs := [1, 3, 5]) (by kernel_rfl) (by simp) ?_
      refine AllReadyH.cons (o := { dst := some 30, op := Op.makeSlice 23 (Operand.tmp 29) (Operand.tmp 29), type := 23, pos := "walk.go:816", after := #[{ on := 0, ground := Ground.data }, { on := 0, ground := Ground.data }], guard := none }) rfl (fun K hK => ?_) (AllReadyH.cons (o := { dst := some 32, op := Op.makeSlice 23 (Operand.tmp 31) (Operand.tmp 31), type := 23, pos := "walk.go:816", after := #[{ on := 2, ground := Ground.data }, { on := 2, ground := Ground.data }], guard := none }) rfl (fun K hK => ?_) (AllReadyH.cons (o := { dst := some 8, op := Op.alloc 23, type := 0, pos := "walk.go:816", after := #[], guard := none }) rfl (fun K hK => ?_) (AllReadyH.nil)))
      · skip
        refine step_mk HB1.out 8 (by decide) (B := w.heap.size) hB1 rfl (.tmp 29) rfl n rfl (by omega) ?_
        intro x2 tg2 hb ht
        have HB2 := hide hb
        have HT2 := hide (HT1.out.trans ht)
        have hB2 : w.heap.size ≤ x2.heap.size := Nat.le_trans hB1 ht.tch.size
        clear hb ht
        refine hK.out _ _ trivial (fun _ => ?_)
        clear hK K
        try simp only [Act.put, List.setIfInBounds_toArray, List.set_cons_zero, List.set_cons_succ]
        refine wpAnyH_ready (rs := [3, 5]) (by kernel_rfl) (by simp) ?_
        refine AllReadyH.cons (o := { dst := some 32, op := Op.makeSlice 23 (Operand.tmp 31) (Operand.tmp 31), type := 23, pos := "walk.go:816", after := #[{ on := 2, ground := Ground.data }, { on := 2, ground := Ground.data }], guard := none }) rfl (fun K hK => ?_) (AllReadyH.cons (o := { dst := some 8, op := Op.alloc 23, type := 0, pos := "walk.go:816", after := #[], guard := none }) rfl (fun K hK => ?_) (AllReadyH.nil))
        · skip
          refine step_mk HB2.out 9 (by decide) (B := w.heap.size) hB2 rfl (.tmp 31) rfl n rfl (by omega) ?_
          intro x3 tg3 hb ht
          have HB3 := hide hb
          have HT3 := hide (HT2.out.trans ht)
          have hB3 : w.heap.size ≤ x3.heap.size := Nat.le_trans hB2 ht.tch.size
          clear hb ht
          refine hK.out _ _ trivial (fun _ => ?_)
          clear hK K
          try simp only [Act.put, List.setIfInBounds_toArray, List.set_cons_zero, List.set_cons_succ]
          refine wpAnyH_ready (rs := [5]) (by kernel_rfl) (by simp) ?_
          refine AllReadyH.cons (o := { dst := some 8, op := Op.alloc 23, type := 0, pos := "walk.go:816", after := #[], guard := none }) rfl (fun K hK => ?_) (AllReadyH.nil)
          · skip
            go_simp
            obtain ⟨tg4, hb, ht⟩ := bag_new HB3.out 3 (by decide) #[.slice none 0 0] 23
            generalize x3.alloc (.cells #[.slice none 0 0] 23) = x4 at *
            have HB4 := hide hb
            have HT4 := hide (HT3.out.trans ht)
            have hB4 : w.heap.size ≤ x4.heap.size := Nat.le_trans hB3 ht.tch.size
            clear hb ht
            refine hK.out _ _ trivial (fun _ => ?_)
            clear hK K
            try simp only [Act.put, List.setIfInBounds_toArray, List.set_cons_zero, List.set_cons_succ]
            refine wpAnyH_ready (rs := [6]) (by kernel_rfl) (by simp) ?_
            refine AllReadyH.cons (o := { dst := none, op := Op.store 23 (Operand.tmp 7) (Operand.tmp 30), type := 0, pos := "walk.go:816", after := #[{ on := 4, ground := Ground.data }, { on := 1, ground := Ground.data }, { on := 0, ground := Ground.phase }, { on := 1, ground := Ground.phase }, { on := 2, ground := Ground.textOnly Departure.lateStores }, { on := 3, ground := Ground.textOnly Departure.lateStoresUnsure }, { on := 4, ground := Ground.phase }, { on := 5, ground := Ground.phase }], guard := none }) rfl (fun K hK => ?_) (AllReadyH.nil)
            · skip
              have cz : x4.cell? ⟨Wd.heap.size, 0, none⟩ = some (.slice none 0 0) := Blk.cell (show Blk x4 Wd.heap.size 23 [.slice none 0 0] from HB4.out.say 2) 0
              have fz : x4.frozen? ⟨Wd.heap.size, 0, none⟩ = false := Blk.frozen (show Blk x4 Wd.heap.size 23 [.slice none 0 0] from HB4.out.say 2) 0
              go_simp
              obtain ⟨tg5, hb, ht⟩ := bag_set HB4.out 2 (by decide) (g := Wd.heap.size) (e := 23) (cs := [.slice none 0 0]) rfl 0 (.slice (some ⟨x1.heap.size, 0, none⟩) n n)
              clear cz fz
              generalize x4.setCell ⟨Wd.heap.size, 0, none⟩ (.slice (some ⟨x1.heap.size, 0, none⟩) n n) = x5 at *
              have HB5 := hide hb
              have HT5 := hide (HT4.out.trans ht)
              have hB5 : w.heap.size ≤ x5.heap.size := Nat.le_trans hB4 ht.tch.size
              clear hb ht
              refine hK.out _ _ trivial (fun _ => ?_)
              clear hK K
              try simp only [Act.put, List.setIfInBounds_toArray, List.set_cons_zero, List.set_cons_succ]
              refine wpAnyH_ready (rs := [7]) (by kernel_rfl) (by simp) ?_
              refine AllReadyH.cons (o := { dst := none, op := Op.store 23 (Operand.tmp 8) (Operand.tmp 32), type := 0, pos := "walk.go:816", after := #[{ on := 5, ground := Ground.data }, { on := 3, ground := Ground.data }, { on := 6, ground := Ground.chain }, { on := 0, ground := Ground.phase }, { on := 1, ground := Ground.phase }, { on := 2, ground := Ground.phase }, { on := 3, ground := Ground.phase }, { on := 4, ground := Ground.phase }, { on := 5, ground := Ground.phase }, { on := 6, ground := Ground.phase }], guard := none }) rfl (fun K hK => ?_) (AllReadyH.nil)
              · skip
                have cz : x5.cell? ⟨x3.heap.size, 0, none⟩ = some (.slice none 0 0) := Blk.cell (show Blk x5 x3.heap.size 23 [.slice none 0 0] from HB5.out.say 3) 0
                have fz : x5.frozen? ⟨x3.heap.size, 0, none⟩ = false := Blk.frozen (show Blk x5 x3.heap.size 23 [.slice none 0 0] from HB5.out.say 3) 0
                go_simp
                obtain ⟨tg6, hb, ht⟩ := bag_set HB5.out 3 (by decide) (g := x3.heap.size) (e := 23) (cs := [.slice none 0 0]) rfl 0 (.slice (some ⟨x2.heap.size, 0, none⟩) n n)
                clear cz fz
                generalize x5.setCell ⟨x3.heap.size, 0, none⟩ (.slice (some ⟨x2.heap.size, 0, none⟩) n n) = x6 at *
                have HB6 := hide hb
                have HT6 := hide (HT5.out.trans ht)
                have hB6 : w.heap.size ≤ x6.heap.size := Nat.le_trans hB5 ht.tch.size
                clear hb ht
                refine hK.out _ _ trivial (fun _ => ?_)
                clear hK K
                try simp only [Act.put, List.setIfInBounds_toArray, List.set_cons_zero, List.set_cons_succ]
                refine wpAnyH_done (by kernel_rfl) ?_ _
                go_wp2_with fail
                go_meet
                case rel => exact ⟨_, Wd.heap.size, x3.heap.size, x1.heap.size, x2.heap.size, rfl, rfl, Bag.congr HB6.out (fun i => by match i with | 0 | 1 | 2 | 3 | 4 | 5 | 6 | 7 | 8 | 9 | 10 | 11 | 12 | 13 | 14 => rfl | k + 15 => rfl), HT6.out⟩
        · skip
          go_simp
          obtain ⟨tg3, hb, ht⟩ := bag_new HB2.out 3 (by decide) #[.slice none 0 0] 23
          generalize x2.alloc (.cells #[.slice none 0 0] 23) = x3 at *
          have HB3 := hide hb
          have HT3 := hide (HT2.out.trans ht)
          have hB3 : w.heap.size ≤ x3.heap.size := Nat.le_trans hB2 ht.tch.size
          clear hb ht
          refine hK.out _ _ trivial (fun _ => ?_)
          clear hK K
          try simp only [Act.put, List.setIfInBounds_toArray, List.set_cons_zero, List.set_cons_succ]
          refine wpAnyH_ready (rs := [3, 6]) (by kernel_rfl) (by simp) ?_
          refine AllReadyH.cons (o := { dst := some 32, op := Op.makeSlice 23 (Operand.tmp 31) (Operand.tmp 31), type := 23, pos := "walk.go:816", after := #[{ on := 2, ground := Ground.data }, { on := 2, ground := Ground.data }], guard := none }) rfl (fun K hK => ?_) (AllReadyH.cons (o := { dst := none, op := Op.store 23 (Operand.tmp 7) (Operand.tmp 30), type := 0, pos := "walk.go:816", after := #[{ on := 4, ground := Ground.data }, { on := 1, ground := Ground.data }, { on := 0, ground := Ground.phase }, { on := 1, ground := Ground.phase }, { on := 2, ground := Ground.textOnly Departure.lateStores }, { on := 3, ground := Ground.textOnly Departure.lateStoresUnsure }, { on := 4, ground := Ground.phase }, { on := 5, ground := Ground.phase }], guard := none }) rfl (fun K hK => ?_) (AllReadyH.nil))
          · skip
            refine step_mk HB3.out 9 (by decide) (B := w.heap.size) hB3 rfl (.tmp 31) rfl n rfl (by omega) ?_
            intro x4 tg4 hb ht
            have HB4 := hide hb
            have HT4 := hide (HT3.out.trans ht)
            have hB4 : w.heap.size ≤ x4.heap.size := Nat.le_trans hB3 ht.tch.size
            clear hb ht
            refine hK.out _ _ trivial (fun _ => ?_)
            clear hK K
            try simp only [Act.put, List.setIfInBounds_toArray, List.set_cons_zero, List.set_cons_succ]
            refine wpAnyH_ready (rs := [6]) (by kernel_rfl) (by simp) ?_
            refine AllReadyH.cons (o := { dst := none, op := Op.store 23 (Operand.tmp 7) (Operand.tmp 30), type := 0, pos := "walk.go:816", after := #[{ on := 4, ground := Ground.data }, { on := 1, ground := Ground.data }, { on := 0, ground := Ground.phase }, { on := 1, ground := Ground.phase }, { on := 2, ground := Ground.textOnly Departure.lateStores }, { on := 3, ground := Ground.textOnly Departure.lateStoresUnsure }, { on := 4, ground := Ground.phase }, { on := 5, ground := Ground.phase }], guard := none }) rfl (fun K hK => ?_) (AllReadyH.nil)
            · skip
              have cz : x4.cell? ⟨Wd.heap.size, 0, none⟩ = some (.slice none 0 0) := Blk.cell (show Blk x4 Wd.heap.size 23 [.slice none 0 0] from HB4.out.say 2) 0
              have fz : x4.frozen? ⟨Wd.heap.size, 0, none⟩ = false := Blk.frozen (show Blk x4 Wd.heap.size 23 [.slice none 0 0] from HB4.out.say 2) 0
              go_simp
              obtain ⟨tg5, hb, ht⟩ := bag_set HB4.out 2 (by decide) (g := Wd.heap.size) (e := 23) (cs := [.slice none 0 0]) rfl 0 (.slice (some ⟨x1.heap.size, 0, none⟩) n n)
              clear cz fz
              generalize x4.setCell ⟨Wd.heap.size, 0, none⟩ (.slice (some ⟨x1.heap.size, 0, none⟩) n n) = x5 at *
              have HB5 := hide hb
              have HT5 := hide (HT4.out.trans ht)
              have hB5 : w.heap.size ≤ x5.heap.size := Nat.le_trans hB4 ht.tch.size
              clear hb ht
              refine hK.out _ _ trivial (fun _ => ?_)
              clear hK K
              try simp only [Act.put, List.setIfInBounds_toArray, List.set_cons_zero, List.set_cons_succ]
              refine wpAnyH_ready (rs := [7]) (by kernel_rfl) (by simp) ?_
              refine AllReadyH.cons (o := { dst := none, op := Op.store 23 (Operand.tmp 8) (Operand.tmp 32), type := 0, pos := "walk.go:816", after := #[{ on := 5, ground := Ground.data }, { on := 3, ground := Ground.data }, { on := 6, ground := Ground.chain }, { on := 0, ground := Ground.phase }, { on := 1, ground := Ground.phase }, { on := 2, ground := Ground.phase }, { on := 3, ground := Ground.phase }, { on := 4, ground := Ground.phase }, { on := 5, ground := Ground.phase }, { on := 6, ground := Ground.phase }], guard := none }) rfl (fun K hK => ?_) (AllReadyH.nil)
              · skip
                have cz : x5.cell? ⟨x2.heap.size, 0, none⟩ = some (.slice none 0 0) := Blk.cell (show Blk x5 x2.heap.size 23 [.slice none 0 0] from HB5.out.say 3) 0
                have fz : x5.frozen? ⟨x2.heap.size, 0, none⟩ = false := Blk.frozen (show Blk x5 x2.heap.size 23 [.slice none 0 0] from HB5.out.say 3) 0
                go_simp
                obtain ⟨tg6, hb, ht⟩ := bag_set HB5.out 3 (by decide) (g := x2.heap.size) (e := 23) (cs := [.slice none 0 0]) rfl 0 (.slice (some ⟨x3.heap.size, 0, none⟩) n n)
                clear cz fz
                generalize x5.setCell ⟨x2.heap.size, 0, none⟩ (.slice (some ⟨x3.heap.size, 0, none⟩) n n) = x6 at *
                have HB6 := hide hb
                have HT6 := hide (HT5.out.trans ht)
                have hB6 : w.heap.size ≤ x6.heap.size := Nat.le_trans hB5 ht.tch.size
                clear hb ht
                refine hK.out _ _ trivial (fun _ => ?_)
                clear hK K
                try simp only [Act.put, List.setIfInBounds_toArray, List.set_cons_zero, List.set_cons_succ]
                refine wpAnyH_done (by kernel_rfl) ?_ _
                go_wp2_with fail
                go_meet
                case rel => exact ⟨_, Wd.heap.size, x2.heap.size, x1.heap.size, x3.heap.size, rfl, rfl, Bag.congr HB6.out (fun i => by match i with | 0 | 1 | 2 | 3 | 4 | 5 | 6 | 7 | 8 | 9 | 10 | 11 | 12 | 13 | 14 => rfl | k + 15 => rfl), HT6.out⟩
          · skip
            have cz : x3.cell? ⟨Wd.heap.size, 0, none⟩ = some (.slice none 0 0) := Blk.cell (show Blk x3 Wd.heap.size 23 [.slice none 0 0] from HB3.out.say 2) 0
            have fz : x3.frozen? ⟨Wd.heap.size, 0, none⟩ = false := Blk.frozen (show Blk x3 Wd.heap.size 23 [.slice none 0 0] from HB3.out.say 2) 0
            go_simp
            obtain ⟨tg4, hb, ht⟩ := bag_set HB3.out 2 (by decide) (g := Wd.heap.size) (e := 23) (cs := [.slice none 0 0]) rfl 0 (.slice (some ⟨x1.heap.size, 0, none⟩) n n)
            clear cz fz
            generalize x3.setCell ⟨Wd.heap.size, 0, none⟩ (.slice (some ⟨x1.heap.size, 0, none⟩) n n) = x4 at *
            have HB4 := hide hb
            have HT4 := hide (HT3.out.trans ht)
            have hB4 : w.heap.size ≤ x4.heap.size := Nat.le_trans hB3 ht.tch.size
            clear hb ht
            refine hK.out _ _ trivial (fun _ => ?_)
            clear hK K
            try simp only [Act.put, List.setIfInBounds_toArray, List.set_cons_zero, List.set_cons_succ]
            refine wpAnyH_ready (rs := [3]) (by kernel_rfl) (by simp) ?_
            refine AllReadyH.cons (o := { dst := some 32, op := Op.makeSlice 23 (Operand.tmp 31) (Operand.tmp 31), type := 23, pos := "walk.go:816", after := #[{ on := 2, ground := Ground.data }, { on := 2, ground := Ground.data }], guard := none }) rfl (fun K hK => ?_) (AllReadyH.nil)
            · skip
              refine step_mk HB4.out 9 (by decide) (B := w.heap.size) hB4 rfl (.tmp 31) rfl n rfl (by omega) ?_
              intro x5 tg5 hb ht
              have HB5 := hide hb
              have HT5 := hide (HT4.out.trans ht)
              have hB5 : w.heap.size ≤ x5.heap.size := Nat.le_trans hB4 ht.tch.size
              clear hb ht
              refine hK.out _ _ trivial (fun _ => ?_)
              clear hK K
              try simp only [Act.put, List.setIfInBounds_toArray, List.set_cons_zero, List.set_cons_succ]
              refine wpAnyH_ready (rs := [7]) (by kernel_rfl) (by simp) ?_
              refine AllReadyH.cons (o := { dst := none, op := Op.store 23 (Operand.tmp 8) (Operand.tmp 32), type := 0, pos := "walk.go:816", after := #[{ on := 5, ground := Ground.data }, { on := 3, ground := Ground.data }, { on := 6, ground := Ground.chain }, { on := 0, ground := Ground.phase }, { on := 1, ground := Ground.phase }, { on := 2, ground := Ground.phase }, { on := 3, ground := Ground.phase }, { on := 4, ground := Ground.phase }, { on := 5, ground := Ground.phase }, { on := 6, ground := Ground.phase }], guard := none }) rfl (fun K hK => ?_) (AllReadyH.nil)
              · skip
                have cz : x5.cell? ⟨x2.heap.size, 0, none⟩ = some (.slice none 0 0) := Blk.cell (show Blk x5 x2.heap.size 23 [.slice none 0 0] from HB5.out.say 3) 0
                have fz : x5.frozen? ⟨x2.heap.size, 0, none⟩ = false := Blk.frozen (show Blk x5 x2.heap.size 23 [.slice none 0 0] from HB5.out.say 3) 0
                go_simp
                obtain ⟨tg6, hb, ht⟩ := bag_set HB5.out 3 (by decide) (g := x2.heap.size) (e := 23) (cs := [.slice none 0 0]) rfl 0 (.slice (some ⟨x4.heap.size, 0, none⟩) n n)
                clear cz fz
                generalize x5.setCell ⟨x2.heap.size, 0, none⟩ (.slice (some ⟨x4.heap.size, 0, none⟩) n n) = x6 at *
                have HB6 := hide hb
                have HT6 := hide (HT5.out.trans ht)
                have hB6 : w.heap.size ≤ x6.heap.size := Nat.le_trans hB5 ht.tch.size
                clear hb ht
                refine hK.out _ _ trivial (fun _ => ?_)
                clear hK K
                try simp only [Act.put, List.setIfInBounds_toArray, List.set_cons_zero, List.set_cons_succ]
                refine wpAnyH_done (by kernel_rfl) ?_ _
                go_wp2_with fail
                go_meet
                case rel => exact ⟨_, Wd.heap.size, x2.heap.size, x1.heap.size, x4.heap.size, rfl, rfl, Bag.congr HB6.out (fun i => by match i with | 0 | 1 | 2 | 3 | 4 | 5 | 6 | 7 | 8 | 9 | 10 | 11 | 12 | 13 | 14 => rfl | k + 15 => rfl), HT6.out⟩
      · skip
        refine step_mk HB1.out 9 (by decide) (B := w.heap.size) hB1 rfl (.tmp 31) rfl n rfl (by omega) ?_
        intro x2 tg2 hb ht
        have HB2 := hide hb
        have HT2 := hide (HT1.out.trans ht)
        have hB2 : w.heap.size ≤ x2.heap.size := Nat.le_trans hB1 ht.tch.size
        clear hb ht
        refine hK.out _ _ trivial (fun _ => ?_)
        clear hK K
        try simp only [Act.put, List.setIfInBounds_toArray, List.set_cons_zero, List.set_cons_succ]
        refine wpAnyH_ready (rs := [1, 5]) (by kernel_rfl) (by simp) ?_
        refine AllReadyH.cons (o := { dst := some 30, op := Op.makeSlice 23 (Operand.tmp 29) (Operand.tmp 29), type := 23, pos := "walk.go:816", after := #[{ on := 0, ground := Ground.data }, { on := 0, ground := Ground.data }], guard := none }) rfl (fun K hK => ?_) (AllReadyH.cons (o := { dst := some 8, op := Op.alloc 23, type := 0, pos := "walk.go:816", after := #[], guard := none }) rfl (fun K hK => ?_) (AllReadyH.nil))
        · skip
          refine step_mk HB2.out 8 (by decide) (B := w.heap.size) hB2 rfl (.tmp 29) rfl n rfl (by omega) ?_
          intro x3 tg3 hb ht
          have HB3 := hide hb
          have HT3 := hide (HT2.out.trans ht)
          have hB3 : w.heap.size ≤ x3.heap.size := Nat.le_trans hB2 ht.tch.size
          clear hb ht
          refine hK.out _ _ trivial (fun _ => ?_)
          clear hK K
          try simp only [Act.put, List.setIfInBounds_toArray, List.set_cons_zero, List.set_cons_succ]
          refine wpAnyH_ready (rs := [5]) (by kernel_rfl) (by simp) ?_
          refine AllReadyH.cons (o := { dst := some 8, op := Op.alloc 23, type := 0, pos := "walk.go:816", after := #[], guard := none }) rfl (fun K hK => ?_) (AllReadyH.nil)
          · skip
            go_simp
            obtain ⟨tg4, hb, ht⟩ := bag_new HB3.out 3 (by decide) #[.slice none 0 0] 23
            generalize x3.alloc (.cells #[.slice none 0 0] 23) = x4 at *
            have HB4 := hide hb
            have HT4 := hide (HT3.out.trans ht)
            have hB4 : w.heap.size ≤ x4.heap.size := Nat.le_trans hB3 ht.tch.size
            clear hb ht
            refine hK.out _ _ trivial (fun _ => ?_)
            clear hK K
            try simp only [Act.put, List.setIfInBounds_toArray, List.set_cons_zero, List.set_cons_succ]
            refine wpAnyH_ready (rs := [6]) (by kernel_rfl) (by simp) ?_
            refine AllReadyH.cons (o := { dst := none, op := Op.store 23 (Operand.tmp 7) (Operand.tmp 30), type := 0, pos := "walk.go:816", after := #[{ on := 4, ground := Ground.data }, { on := 1, ground := Ground.data }, { on := 0, ground := Ground.phase }, { on := 1, ground := Ground.phase }, { on := 2, ground := Ground.textOnly Departure.lateStores }, { on := 3, ground := Ground.textOnly Departure.lateStoresUnsure }, { on := 4, ground := Ground.phase }, { on := 5, ground := Ground.phase }], guard := none }) rfl (fun K hK => ?_) (AllReadyH.nil)
            · skip
              have cz : x4.cell? ⟨Wd.heap.size, 0, none⟩ = some (.slice none 0 0) := Blk.cell (show Blk x4 Wd.heap.size 23 [.slice none 0 0] from HB4.out.say 2) 0
              have fz : x4.frozen? ⟨Wd.heap.size, 0, none⟩ = false := Blk.frozen (show Blk x4 Wd.heap.size 23 [.slice none 0 0] from HB4.out.say 2) 0
              go_simp
              obtain ⟨tg5, hb, ht⟩ := bag_set HB4.out 2 (by decide) (g := Wd.heap.size) (e := 23) (cs := [.slice none 0 0]) rfl 0 (.slice (some ⟨x2.heap.size, 0, none⟩) n n)
              clear cz fz
              generalize x4.setCell ⟨Wd.heap.size, 0, none⟩ (.slice (some ⟨x2.heap.size, 0, none⟩) n n) = x5 at *
              have HB5 := hide hb
              have HT5 := hide (HT4.out.trans ht)
              have hB5 : w.heap.size ≤ x5.heap.size := Nat.le_trans hB4 ht.tch.size
              clear hb ht
              refine hK.out _ _ trivial (fun _ => ?_)
              clear hK K
              try simp only [Act.put, List.setIfInBounds_toArray, List.set_cons_zero, List.set_cons_succ]
              refine wpAnyH_ready (rs := [7]) (by kernel_rfl) (by simp) ?_
              refine AllReadyH.cons (o := { dst := none, op := Op.store 23 (Operand.tmp 8) (Operand.tmp 32), type := 0, pos := "walk.go:816", after := #[{ on := 5, ground := Ground.data }, { on := 3, ground := Ground.data }, { on := 6, ground := Ground.chain }, { on := 0, ground := Ground.phase }, { on := 1, ground := Ground.phase }, { on := 2, ground := Ground.phase }, { on := 3, ground := Ground.phase }, { on := 4, ground := Ground.phase }, { on := 5, ground := Ground.phase }, { on := 6, ground := Ground.phase }], guard := none }) rfl (fun K hK => ?_) (AllReadyH.nil)
              · skip
                have cz : x5.cell? ⟨x3.heap.size, 0, none⟩ = some (.slice none 0 0) := Blk.cell (show Blk x5 x3.heap.size 23 [.slice none 0 0] from HB5.out.say 3) 0
                have fz : x5.frozen? ⟨x3.heap.size, 0, none⟩ = false := Blk.frozen (show Blk x5 x3.heap.size 23 [.slice none 0 0] from HB5.out.say 3) 0
                go_simp
                obtain ⟨tg6, hb, ht⟩ := bag_set HB5.out 3 (by decide) (g := x3.heap.size) (e := 23) (cs := [.slice none 0 0]) rfl 0 (.slice (some ⟨x1.heap.size, 0, none⟩) n n)
                clear cz fz
                generalize x5.setCell ⟨x3.heap.size, 0, none⟩ (.slice (some ⟨x1.heap.size, 0, none⟩) n n) = x6 at *
                have HB6 := hide hb
                have HT6 := hide (HT5.out.trans ht)
                have hB6 : w.heap.size ≤ x6.heap.size := Nat.le_trans hB5 ht.tch.size
                clear hb ht
                refine hK.out _ _ trivial (fun _ => ?_)
                clear hK K
                try simp only [Act.put, List.setIfInBounds_toArray, List.set_cons_zero, List.set_cons_succ]
                refine wpAnyH_done (by kernel_rfl) ?_ _
                go_wp2_with fail
                go_meet
                case rel => exact ⟨_, Wd.heap.size, x3.heap.size, x2.heap.size, x1.heap.size, rfl, rfl, Bag.congr HB6.out (fun i => by match i with | 0 | 1 | 2 | 3 | 4 | 5 | 6 | 7 | 8 | 9 | 10 | 11 | 12 | 13 | 14 => rfl | k + 15 => rfl), HT6.out⟩
        · skip
          go_simp
          obtain ⟨tg3, hb, ht⟩ := bag_new HB2.out 3 (by decide) #[.slice none 0 0] 23
          generalize x2.alloc (.cells #[.slice none 0 0] 23) = x3 at *
          have HB3 := hide hb
          have HT3 := hide (HT2.out.trans ht)
          have hB3 : w.heap.size ≤ x3.heap.size := Nat.le_trans hB2 ht.tch.size
          clear hb ht
          refine hK.out _ _ trivial (fun _ => ?_)
          clear hK K
          try simp only [Act.put, List.setIfInBounds_toArray, List.set_cons_zero, List.set_cons_succ]
          refine wpAnyH_ready (rs := [1]) (by kernel_rfl) (by simp) ?_
          refine AllReadyH.cons (o := { dst := some 30, op := Op.makeSlice 23 (Operand.tmp 29) (Operand.tmp 29), type := 23, pos := "walk.go:816", after := #[{ on := 0, ground := Ground.data }, { on := 0, ground := Ground.data }], guard := none }) rfl (fun K hK => ?_) (AllReadyH.nil)
          · skip
            refine step_mk HB3.out 8 (by decide) (B := w.heap.size) hB3 rfl (.tmp 29) rfl n rfl (by omega) ?_
            intro x4 tg4 hb ht
            have HB4 := hide hb
            have HT4 := hide (HT3.out.trans ht)
            have hB4 : w.heap.size ≤ x4.heap.size := Nat.le_trans hB3 ht.tch.size
            clear hb ht
            refine hK.out _ _ trivial (fun _ => ?_)
            clear hK K
            try simp only [Act.put, List.setIfInBounds_toArray, List.set_cons_zero, List.set_cons_succ]
            refine wpAnyH_ready (rs := [6]) (by kernel_rfl) (by simp) ?_
            refine AllReadyH.cons (o := { dst := none, op := Op.store 23 (Operand.tmp 7) (Operand.tmp 30), type := 0, pos := "walk.go:816", after := #[{ on := 4, ground := Ground.data }, { on := 1, ground := Ground.data }, { on := 0, ground := Ground.phase }, { on := 1, ground := Ground.phase }, { on := 2, ground := Ground.textOnly Departure.lateStores }, { on := 3, ground := Ground.textOnly Departure.lateStoresUnsure }, { on := 4, ground := Ground.phase }, { on := 5, ground := Ground.phase }], guard := none }) rfl (fun K hK => ?_) (AllReadyH.nil)
            · skip
              have cz : x4.cell? ⟨Wd.heap.size, 0, none⟩ = some (.slice none 0 0) := Blk.cell (show Blk x4 Wd.heap.size 23 [.slice none 0 0] from HB4.out.say 2) 0
              have fz : x4.frozen? ⟨Wd.heap.size, 0, none⟩ = false := Blk.frozen (show Blk x4 Wd.heap.size 23 [.slice none 0 0] from HB4.out.say 2) 0
              go_simp
              obtain ⟨tg5, hb, ht⟩ := bag_set HB4.out 2 (by decide) (g := Wd.heap.size) (e := 23) (cs := [.slice none 0 0]) rfl 0 (.slice (some ⟨x3.heap.size, 0, none⟩) n n)
              clear cz fz
              generalize x4.setCell ⟨Wd.heap.size, 0, none⟩ (.slice (some ⟨x3.heap.size, 0, none⟩) n n) = x5 at *
              have HB5 := hide hb
              have HT5 := hide (HT4.out.trans ht)
              have hB5 : w.heap.size ≤ x5.heap.size := Nat.le_trans hB4 ht.tch.size
              clear hb ht
              refine hK.out _ _ trivial (fun _ => ?_)
              clear hK K
              try simp only [Act.put, List.setIfInBounds_toArray, List.set_cons_zero, List.set_cons_succ]
              refine wpAnyH_ready (rs := [7]) (by kernel_rfl) (by simp) ?_
              refine AllReadyH.cons (o := { dst := none, op := Op.store 23 (Operand.tmp 8) (Operand.tmp 32), type := 0, pos := "walk.go:816", after := #[{ on := 5, ground := Ground.data }, { on := 3, ground := Ground.data }, { on := 6, ground := Ground.chain }, { on := 0, ground := Ground.phase }, { on := 1, ground := Ground.phase }, { on := 2, ground := Ground.phase }, { on := 3, ground := Ground.phase }, { on := 4, ground := Ground.phase }, { on := 5, ground := Ground.phase }, { on := 6, ground := Ground.phase }], guard := none }) rfl (fun K hK => ?_) (AllReadyH.nil)
              · skip
                have cz : x5.cell? ⟨x2.heap.size, 0, none⟩ = some (.slice none 0 0) := Blk.cell (show Blk x5 x2.heap.size 23 [.slice none 0 0] from HB5.out.say 3) 0
                have fz : x5.frozen? ⟨x2.heap.size, 0, none⟩ = false := Blk.frozen (show Blk x5 x2.heap.size 23 [.slice none 0 0] from HB5.out.say 3) 0
                go_simp
                obtain ⟨tg6, hb, ht⟩ := bag_set HB5.out 3 (by decide) (g := x2.heap.size) (e := 23) (cs := [.slice none 0 0]) rfl 0 (.slice (some ⟨x1.heap.size, 0, none⟩) n n)
                clear cz fz
                generalize x5.setCell ⟨x2.heap.size, 0, none⟩ (.slice (some ⟨x1.heap.size, 0, none⟩) n n) = x6 at *
                have HB6 := hide hb
                have HT6 := hide (HT5.out.trans ht)
                have hB6 : w.heap.size ≤ x6.heap.size := Nat.le_trans hB5 ht.tch.size
                clear hb ht
                refine hK.out _ _ trivial (fun _ => ?_)
                clear hK K
                try simp only [Act.put, List.setIfInBounds_toArray, List.set_cons_zero, List.set_cons_succ]
                refine wpAnyH_done (by kernel_rfl) ?_ _
                go_wp2_with fail
                go_meet
                case rel => exact ⟨_, Wd.heap.size, x2.heap.size, x3.heap.size, x1.heap.size, rfl, rfl, Bag.congr HB6.out (fun i => by match i with | 0 | 1 | 2 | 3 | 4 | 5 | 6 | 7 | 8 | 9 | 10 | 11 | 12 | 13 | 14 => rfl | k + 15 => rfl), HT6.out⟩
      · skip
        go_simp
        obtain ⟨tg2, hb, ht⟩ := bag_new HB1.out 3 (by decide) #[.slice none 0 0] 23
        generalize x1.alloc (.cells #[.slice none 0 0] 23) = x2 at *
        have HB2 := hide hb
        have HT2 := hide (HT1.out.trans ht)
        have hB2 : w.heap.size ≤ x2.heap.size := Nat.le_trans hB1 ht.tch.size
        clear hb ht
        refine hK.out _ _ trivial (fun _ => ?_)
        clear hK K
        try simp only [Act.put, List.setIfInBounds_toArray, List.set_cons_zero, List.set_cons_succ]
        refine wpAnyH_ready (rs := [1, 3]) (by kernel_rfl) (by simp) ?_
        refine AllReadyH.cons (o := { dst := some 30, op := Op.makeSlice 23 (Operand.tmp 29) (Operand.tmp 29), type := 23, pos := "walk.go:816", after := #[{ on := 0, ground := Ground.data }, { on := 0, ground := Ground.data }], guard := none }) rfl (fun K hK => ?_) (AllReadyH.cons (o := { dst := some 32, op := Op.makeSlice 23 (Operand.tmp 31) (Operand.tmp 31), type := 23, pos := "walk.go:816", after := #[{ on := 2, ground := Ground.data }, { on := 2, ground := Ground.data }], guard := none }) rfl (fun K hK => ?_) (AllReadyH.nil))
        · skip
          refine step_mk HB2.out 8 (by decide) (B := w.heap.size) hB2 rfl (.tmp 29) rfl n rfl (by omega) ?_
          intro x3 tg3 hb ht
          have HB3 := hide hb
          have HT3 := hide (HT2.out.trans ht)
          have hB3 : w.heap.size ≤ x3.heap.size := Nat.le_trans hB2 ht.tch.size
          clear hb ht
          refine hK.out _ _ trivial (fun _ => ?_)
          clear hK K
          try simp only [Act.put, List.setIfInBounds_toArray, List.set_cons_zero, List.set_cons_succ]
          refine wpAnyH_ready (rs := [3, 6]) (by kernel_rfl) (by simp) ?_
          refine AllReadyH.cons (o := { dst := some 32, op := Op.makeSlice 23 (Operand.tmp 31) (Operand.tmp 31), type := 23, pos := "walk.go:816", after := #[{ on := 2, ground := Ground.data }, { on := 2, ground := Ground.data }], guard := none }) rfl (fun K hK => ?_) (AllReadyH.cons (o := { dst := none, op := Op.store 23 (Operand.tmp 7) (Operand.tmp 30), type := 0, pos := "walk.go:816", after := #[{ on := 4, ground := Ground.data }, { on := 1, ground := Ground.data }, { on := 0, ground := Ground.phase }, { on := 1, ground := Ground.phase }, { on := 2, ground := Ground.textOnly Departure.lateStores }, { on := 3, ground := Ground.textOnly Departure.lateStoresUnsure }, { on := 4, ground := Ground.phase }, { on := 5, ground := Ground.phase }], guard := none }) rfl (fun K hK => ?_) (AllReadyH.nil))
          · skip
            refine step_mk HB3.out 9 (by decide) (B := w.heap.size) hB3 rfl (.tmp 31) rfl n rfl (by omega) ?_
            intro x4 tg4 hb ht
            have HB4 := hide hb
            have HT4 := hide (HT3.out.trans ht)
            have hB4 : w.heap.size ≤ x4.heap.size := Nat.le_trans hB3 ht.tch.size
            clear hb ht
            refine hK.out _ _ trivial (fun _ => ?_)
            clear hK K
            try simp only [Act.put, List.setIfInBounds_toArray, List.set_cons_zero, List.set_cons_succ]
            refine wpAnyH_ready (rs := [6]) (by kernel_rfl) (by simp) ?_
            refine AllReadyH.cons (o := { dst := none, op := Op.store 23 (Operand.tmp 7) (Operand.tmp 30), type := 0, pos := "walk.go:816", after := #[{ on := 4, ground := Ground.data }, { on := 1, ground := Ground.data }, { on := 0, ground := Ground.phase }, { on := 1, ground := Ground.phase }, { on := 2, ground := Ground.textOnly Departure.lateStores }, { on := 3, ground := Ground.textOnly Departure.lateStoresUnsure }, { on := 4, ground := Ground.phase }, { on := 5, ground := Ground.phase }], guard := none }) rfl (fun K hK => ?_) (AllReadyH.nil)
            · skip
              have cz : x4.cell? ⟨Wd.heap.size, 0, none⟩ = some (.slice none 0 0) := Blk.cell (show Blk x4 Wd.heap.size 23 [.slice none 0 0] from HB4.out.say 2) 0
              have fz : x4.frozen? ⟨Wd.heap.size, 0, none⟩ = false := Blk.frozen (show Blk x4 Wd.heap.size 23 [.slice none 0 0] from HB4.out.say 2) 0
              go_simp
              obtain ⟨tg5, hb, ht⟩ := bag_set HB4.out 2 (by decide) (g := Wd.heap.size) (e := 23) (cs := [.slice none 0 0]) rfl 0 (.slice (some ⟨x2.heap.size, 0, none⟩) n n)
              clear cz fz
              generalize x4.setCell ⟨Wd.heap.size, 0, none⟩ (.slice (some ⟨x2.heap.size, 0, none⟩) n n) = x5 at *
              have HB5 := hide hb
              have HT5 := hide (HT4.out.trans ht)
              have hB5 : w.heap.size ≤ x5.heap.size := Nat.le_trans hB4 ht.tch.size
              clear hb ht
              refine hK.out _ _ trivial (fun _ => ?_)
              clear hK K
              try simp only [Act.put, List.setIfInBounds_toArray, List.set_cons_zero, List.set_cons_succ]
              refine wpAnyH_ready (rs := [7]) (by kernel_rfl) (by simp) ?_
              refine AllReadyH.cons (o := { dst := none, op := Op.store 23 (Operand.tmp 8) (Operand.tmp 32), type := 0, pos := "walk.go:816", after := #[{ on := 5, ground := Ground.data }, { on := 3, ground := Ground.data }, { on := 6, ground := Ground.chain }, { on := 0, ground := Ground.phase }, { on := 1, ground := Ground.phase }, { on := 2, ground := Ground.phase }, { on := 3, ground := Ground.phase }, { on := 4, ground := Ground.phase }, { on := 5, ground := Ground.phase }, { on := 6, ground := Ground.phase }], guard := none }) rfl (fun K hK => ?_) (AllReadyH.nil)
              · skip
                have cz : x5.cell? ⟨x1.heap.size, 0, none⟩ = some (.slice none 0 0) := Blk.cell (show Blk x5 x1.heap.size 23 [.slice none 0 0] from HB5.out.say 3) 0
                have fz : x5.frozen? ⟨x1.heap.size, 0, none⟩ = false := Blk.frozen (show Blk x5 x1.heap.size 23 [.slice none 0 0] from HB5.out.say 3) 0
                go_simp
                obtain ⟨tg6, hb, ht⟩ := bag_set HB5.out 3 (by decide) (g := x1.heap.size) (e := 23) (cs := [.slice none 0 0]) rfl 0 (.slice (some ⟨x3.heap.size, 0, none⟩) n n)
                clear cz fz
                generalize x5.setCell ⟨x1.heap.size, 0, none⟩ (.slice (some ⟨x3.heap.size, 0, none⟩) n n) = x6 at *
                have HB6 := hide hb
                have HT6 := hide (HT5.out.trans ht)
                have hB6 : w.heap.size ≤ x6.heap.size := Nat.le_trans hB5 ht.tch.size
                clear hb ht
                refine hK.out _ _ trivial (fun _ => ?_)
                clear hK K
                try simp only [Act.put, List.setIfInBounds_toArray, List.set_cons_zero, List.set_cons_succ]
                refine wpAnyH_done (by kernel_rfl) ?_ _
                go_wp2_with fail
                go_meet
                case rel => exact ⟨_, Wd.heap.size, x1.heap.size, x2.heap.size, x3.heap.size, rfl, rfl, Bag.congr HB6.out (fun i => by match i with | 0 | 1 | 2 | 3 | 4 | 5 | 6 | 7 | 8 | 9 | 10 | 11 | 12 | 13 | 14 => rfl | k + 15 => rfl), HT6.out⟩
          · skip
            have cz : x3.cell? ⟨Wd.heap.size, 0, none⟩ = some (.slice none 0 0) := Blk.cell (show Blk x3 Wd.heap.size 23 [.slice none 0 0] from HB3.out.say 2) 0
            have fz : x3.frozen? ⟨Wd.heap.size, 0, none⟩ = false := Blk.frozen (show Blk x3 Wd.heap.size 23 [.slice none 0 0] from HB3.out.say 2) 0
            go_simp
            obtain ⟨tg4, hb, ht⟩ := bag_set HB3.out 2 (by decide) (g := Wd.heap.size) (e := 23) (cs := [.slice none 0 0]) rfl 0 (.slice (some ⟨x2.heap.size, 0, none⟩) n n)
            clear cz fz
            generalize x3.setCell ⟨Wd.heap.size, 0, none⟩ (.slice (some ⟨x2.heap.size, 0, none⟩) n n) = x4 at *
            have HB4 := hide hb
            have HT4 := hide (HT3.out.trans ht)
            have hB4 : w.heap.size ≤ x4.heap.size := Nat.le_trans hB3 ht.tch.size
            clear hb ht
            refine hK.out _ _ trivial (fun _ => ?_)
            clear hK K
            try simp only [Act.put, List.setIfInBounds_toArray, List.set_cons_zero, List.set_cons_succ]
            refine wpAnyH_ready (rs := [3]) (by kernel_rfl) (by simp) ?_
            refine AllReadyH.cons (o := { dst := some 32, op := Op.makeSlice 23 (Operand.tmp 31) (Operand.tmp 31), type := 23, pos := "walk.go:816", after := #[{ on := 2, ground := Ground.data }, { on := 2, ground := Ground.data }], guard := none }) rfl (fun K hK => ?_) (AllReadyH.nil)
            · skip
              refine step_mk HB4.out 9 (by decide) (B := w.heap.size) hB4 rfl (.tmp 31) rfl n rfl (by omega) ?_
              intro x5 tg5 hb ht
              have HB5 := hide hb
              have HT5 := hide (HT4.out.trans ht)
              have hB5 : w.heap.size ≤ x5.heap.size := Nat.le_trans hB4 ht.tch.size
              clear hb ht
              refine hK.out _ _ trivial (fun _ => ?_)
              clear hK K
              try simp only [Act.put, List.setIfInBounds_toArray, List.set_cons_zero, List.set_cons_succ]
              refine wpAnyH_ready (rs := [7]) (by kernel_rfl) (by simp) ?_
              refine AllReadyH.cons (o := { dst := none, op := Op.store 23 (Operand.tmp 8) (Operand.tmp 32), type := 0, pos := "walk.go:816", after := #[{ on := 5, ground := Ground.data }, { on := 3, ground := Ground.data }, { on := 6, ground := Ground.chain }, { on := 0, ground := Ground.phase }, { on := 1, ground := Ground.phase }, { on := 2, ground := Ground.phase }, { on := 3, ground := Ground.phase }, { on := 4, ground := Ground.phase }, { on := 5, ground := Ground.phase }, { on := 6, ground := Ground.phase }], guard := none }) rfl (fun K hK => ?_) (AllReadyH.nil)
              · skip
                have cz : x5.cell? ⟨x1.heap.size, 0, none⟩ = some (.slice none 0 0) := Blk.cell (show Blk x5 x1.heap.size 23 [.slice none 0 0] from HB5.out.say 3) 0
                have fz : x5.frozen? ⟨x1.heap.size, 0, none⟩ = false := Blk.frozen (show Blk x5 x1.heap.size 23 [.slice none 0 0] from HB5.out.say 3) 0
                go_simp
                obtain ⟨tg6, hb, ht⟩ := bag_set HB5.out 3 (by decide) (g := x1.heap.size) (e := 23) (cs := [.slice none 0 0]) rfl 0 (.slice (some ⟨x4.heap.size, 0, none⟩) n n)
                clear cz fz
                generalize x5.setCell ⟨x1.heap.size, 0, none⟩ (.slice (some ⟨x4.heap.size, 0, none⟩) n n) = x6 at *
                have HB6 := hide hb
                have HT6 := hide (HT5.out.trans ht)
                have hB6 : w.heap.size ≤ x6.heap.size := Nat.le_trans hB5 ht.tch.size
                clear hb ht
                refine hK.out _ _ trivial (fun _ => ?_)
                clear hK K
                try simp only [Act.put, List.setIfInBounds_toArray, List.set_cons_zero, List.set_cons_succ]
                refine wpAnyH_done (by kernel_rfl) ?_ _
                go_wp2_with fail
                go_meet
                case rel => exact ⟨_, Wd.heap.size, x1.heap.size, x2.heap.size, x4.heap.size, rfl, rfl, Bag.congr HB6.out (fun i => by match i with | 0 | 1 | 2 | 3 | 4 | 5 | 6 | 7 | 8 | 9 | 10 | 11 | 12 | 13 | 14 => rfl | k + 15 => rfl), HT6.out⟩
        · skip
          refine step_mk HB2.out 9 (by decide) (B := w.heap.size) hB2 rfl (.tmp 31) rfl n rfl (by omega) ?_
          intro x3 tg3 hb ht
          have HB3 := hide hb
          have HT3 := hide (HT2.out.trans ht)
          have hB3 : w.heap.size ≤ x3.heap.size := Nat.le_trans hB2 ht.tch.size
          clear hb ht
          refine hK.out _ _ trivial (fun _ => ?_)
          clear hK K
          try simp only [Act.put, List.setIfInBounds_toArray, List.set_cons_zero, List.set_cons_succ]
          refine wpAnyH_ready (rs := [1]) (by kernel_rfl) (by simp) ?_
          refine AllReadyH.cons (o := { dst := some 30, op := Op.makeSlice 23 (Operand.tmp 29) (Operand.tmp 29), type := 23, pos := "walk.go:816", after := #[{ on := 0, ground := Ground.data }, { on := 0, ground := Ground.data }], guard := none }) rfl (fun K hK => ?_) (AllReadyH.nil)
          · skip
            refine step_mk HB3.out 8 (by decide) (B := w.heap.size) hB3 rfl (.tmp 29) rfl n rfl (by omega) ?_
            intro x4 tg4 hb ht
            have HB4 := hide hb
            have HT4 := hide (HT3.out.trans ht)
            have hB4 : w.heap.size ≤ x4.heap.size := Nat.le_trans hB3 ht.tch.size
            clear hb ht
            refine hK.out _ _ trivial (fun _ => ?_)
            clear hK K
            try simp only [Act.put, List.setIfInBounds_toArray, List.set_cons_zero, List.set_cons_succ]
            refine wpAnyH_ready (rs := [6]) (by kernel_rfl) (by simp) ?_
            refine AllReadyH.cons (o := { dst := none, op := Op.store 23 (Operand.tmp 7) (Operand.tmp 30), type := 0, pos := "walk.go:816", after := #[{ on := 4, ground := Ground.data }, { on := 1, ground := Ground.data }, { on := 0, ground := Ground.phase }, { on := 1, ground := Ground.phase }, { on := 2, ground := Ground.textOnly Departure.lateStores }, { on := 3, ground := Ground.textOnly Departure.lateStoresUnsure }, { on := 4, ground := Ground.phase }, { on := 5, ground := Ground.phase }], guard := none }) rfl (fun K hK => ?_) (AllReadyH.nil)
            · skip
              have cz : x4.cell? ⟨Wd.heap.size, 0, none⟩ = some (.slice none 0 0) := Blk.cell (show Blk x4 Wd.heap.size 23 [.slice none 0 0] from HB4.out.say 2) 0
              have fz : x4.frozen? ⟨Wd.heap.size, 0, none⟩ = false := Blk.frozen (show Blk x4 Wd.heap.size 23 [.slice none 0 0] from HB4.out.say 2) 0
              go_simp
              obtain ⟨tg5, hb, ht⟩ := bag_set HB4.out 2 (by decide) (g := Wd.heap.size) (e := 23) (cs := [.slice none 0 0]) rfl 0 (.slice (some ⟨x3.heap.size, 0, none⟩) n n)
              clear cz fz
              generalize x4.setCell ⟨Wd.heap.size, 0, none⟩ (.slice (some ⟨x3.heap.size, 0, none⟩) n n) = x5 at *
              have HB5 := hide hb
              have HT5 := hide (HT4.out.trans ht)
              have hB5 : w.heap.size ≤ x5.heap.size := Nat.le_trans hB4 ht.tch.size
              clear hb ht
              refine hK.out _ _ trivial (fun _ => ?_)
              clear hK K
              try simp only [Act.put, List.setIfInBounds_toArray, List.set_cons_zero, List.set_cons_succ]
              refine wpAnyH_ready (rs := [7]) (by kernel_rfl) (by simp) ?_
              refine AllReadyH.cons (o := { dst := none, op := Op.store 23 (Operand.tmp 8) (Operand.tmp 32), type := 0, pos := "walk.go:816", after := #[{ on := 5, ground := Ground.data }, { on := 3, ground := Ground.data }, { on := 6, ground := Ground.chain }, { on := 0, ground := Ground.phase }, { on := 1, ground := Ground.phase }, { on := 2, ground := Ground.phase }, { on := 3, ground := Ground.phase }, { on := 4, ground := Ground.phase }, { on := 5, ground := Ground.phase }, { on := 6, ground := Ground.phase }], guard := none }) rfl (fun K hK => ?_) (AllReadyH.nil)
              · skip
                have cz : x5.cell? ⟨x1.heap.size, 0, none⟩ = some (.slice none 0 0) := Blk.cell (show Blk x5 x1.heap.size 23 [.slice none 0 0] from HB5.out.say 3) 0
                have fz : x5.frozen? ⟨x1.heap.size, 0, none⟩ = false := Blk.frozen (show Blk x5 x1.heap.size 23 [.slice none 0 0] from HB5.out.say 3) 0
                go_simp
                obtain ⟨tg6, hb, ht⟩ := bag_set HB5.out 3 (by decide) (g := x1.heap.size) (e := 23) (cs := [.slice none 0 0]) rfl 0 (.slice (some ⟨x2.heap.size, 0, none⟩) n n)
                clear cz fz
                generalize x5.setCell ⟨x1.heap.size, 0, none⟩ (.slice (some ⟨x2.heap.size, 0, none⟩) n n) = x6 at *
                have HB6 := hide hb
                have HT6 := hide (HT5.out.trans ht)
                have hB6 : w.heap.size ≤ x6.heap.size := Nat.le_trans hB5 ht.tch.size
                clear hb ht
                refine hK.out _ _ trivial (fun _ => ?_)
                clear hK K
                try simp only [Act.put, List.setIfInBounds_toArray, List.set_cons_zero, List.set_cons_succ]
                refine wpAnyH_done (by kernel_rfl) ?_ _
                go_wp2_with fail
                go_meet
                case rel => exact ⟨_, Wd.heap.size, x1.heap.size, x3.heap.size, x2.heap.size, rfl, rfl, Bag.congr HB6.out (fun i => by match i with | 0 | 1 | 2 | 3 | 4 | 5 | 6 | 7 | 8 | 9 | 10 | 11 | 12 | 13 | 14 => rfl | k + 15 => rfl), HT6.out⟩
    · skip
      go_simp
      obtain ⟨tg1, hb, ht⟩ := bag_new HB0.out 3 (by decide) #[.slice none 0 0] 23
      generalize Wd.alloc (.cells #[.slice none 0 0] 23) = x1 at *
      have HB1 := hide hb
      have HT1 := hide (HT0.out.trans ht)
      have hB1 : w.heap.size ≤ x1.heap.size := Nat.le_trans hB0 ht.tch.size
      clear hb ht
      refine hK.out _ _ trivial (fun _ => ?_)
      clear hK K
      try simp only [Act.put, List.setIfInBounds_toArray, List.set_cons_zero, List.set_cons_succ]
      refine wpAnyH_ready (rs := [1, 3, 4]) (by kernel_rfl) (by simp) ?_
      refine AllReadyH.cons (o := { dst := some 30, op := Op.makeSlice 23 (Operand.tmp 29) (Operand.tmp 29), type := 23, pos := "walk.go:816", after := #[{ on := 0, ground := Ground.data }, { on := 0, ground := Ground.data }], guard := none }) rfl (fun K hK => ?_) (AllReadyH.cons (o := { dst := some 32, op := Op.makeSlice 23 (Operand.tmp 31) (Operand.tmp 31), type := 23, pos := "walk.go:816", after := #[{ on := 2, ground := Ground.data }, { on := 2, ground := Ground.data }], guard := none }) rfl (fun K hK => ?_) (AllReadyH.cons (o := { dst := some 7, op := Op.alloc 23, type := 0, pos := "walk.go:816", after := #[], guard := none }) rfl (fun K hK => ?_) (AllReadyH.nil)))
      · skip
        refine step_mk HB1.out 8 (by decide) (B := w.heap.size) hB1 rfl (.tmp 29) rfl n rfl (by omega) ?_
        intro x2 tg2 hb ht
        have HB2 := hide hb
        have HT2 := hide (HT1.out.trans ht)
        have hB2 : w.heap.size ≤ x2.heap.size := Nat.le_trans hB1 ht.tch.size
        clear hb ht
        refine hK.out _ _ trivial (fun _ => ?_)
        clear hK K
        try simp only [Act.put, List.setIfInBounds_toArray, List.set_cons_zero, List.set_cons_succ]
        refine wpAnyH_ready (rs := [3, 4]) (by kernel_rfl) (by simp) ?_
        refine AllReadyH.cons (o := { dst := some 32, op := Op.makeSlice 23 (Operand.tmp 31) (Operand.tmp 31), type := 23, pos := "walk.go:816", after := #[{ on := 2, ground := Ground.data }, { on := 2, ground := Ground.data }], guard := none }) rfl (fun K hK => ?_) (AllReadyH.cons (o := { dst := some 7, op := Op.alloc 23, type := 0, pos := "walk.go:816", after := #[], guard := none }) rfl (fun K hK => ?_) (AllReadyH.nil))
        · skip
          refine step_mk HB2.out 9 (by decide) (B := w.heap.size) hB2 rfl (.tmp 31) rfl n rfl (by omega) ?_
          intro x3 tg3 hb ht
          have HB3 := hide hb
          have HT3 := hide (HT2.out.trans ht)
          have hB3 : w.heap.size ≤ x3.heap.size := Nat.le_trans hB2 ht.tch.size
          clear hb ht
          refine hK.out _ _ trivial (fun _ => ?_)
          clear hK K
          try simp only [Act.put, List.setIfInBounds_toArray, List.set_cons_zero, List.set_cons_succ]
          refine wpAnyH_ready (rs := [4]) (by kernel_rfl) (by simp) ?_
          refine AllReadyH.cons (o := { dst := some 7, op := Op.alloc 23, type := 0, pos := "walk.go:816", after := #[], guard := none }) rfl (fun K hK => ?_) (AllReadyH.nil)
          · skip
            go_simp
            obtain ⟨tg4, hb, ht⟩ := bag_new HB3.out 2 (by decide) #[.slice none 0 0] 23
            generalize x3.alloc (.cells #[.slice none 0 0] 23) = x4 at *
            have HB4 := hide hb
            have HT4 := hide (HT3.out.trans ht)
            have hB4 : w.heap.size ≤ x4.heap.size := Nat.le_trans hB3 ht.tch.size
            clear hb ht
            refine hK.out _ _ trivial (fun _ => ?_)
            clear hK K
            try simp only [Act.put, List.setIfInBounds_toArray, List.set_cons_zero, List.set_cons_succ]
            refine wpAnyH_ready (rs := [6]) (by kernel_rfl) (by simp) ?_
            refine AllReadyH.cons (o := { dst := none, op := Op.store 23 (Operand.tmp 7) (Operand.tmp 30), type := 0, pos := "walk.go:816", after := #[{ on := 4, ground := Ground.data }, { on := 1, ground := Ground.data }, { on := 0, ground := Ground.phase }, { on := 1, ground := Ground.phase }, { on := 2, ground := Ground.textOnly Departure.lateStores }, { on := 3, ground := Ground.textOnly Departure.lateStoresUnsure }, { on := 4, ground := Ground.phase }, { on := 5, ground := Ground.phase }], guard := none }) rfl (fun K hK => ?_) (AllReadyH.nil)
            · skip
              have cz : x4.cell? ⟨x3.heap.size, 0, none⟩ = some (.slice none 0 0) := Blk.cell (show Blk x4 x3.heap.size 23 [.slice none 0 0] from HB4.out.say 2) 0
              have fz : x4.frozen? ⟨x3.heap.size, 0, none⟩ = false := Blk.frozen (show Blk x4 x3.heap.size 23 [.slice none 0 0] from HB4.out.say 2) 0
              go_simp
              obtain ⟨tg5, hb, ht⟩ := bag_set HB4.out 2 (by decide) (g := x3.heap.size) (e := 23) (cs := [.slice none 0 0]) rfl 0 (.slice (some ⟨x1.heap.size, 0, none⟩) n n)
              clear cz fz
              generalize x4.setCell ⟨x3.heap.size, 0, none⟩ (.slice (some ⟨x1.heap.size, 0, none⟩) n n) = x5 at *
              have HB5 := hide hb
              have HT5 := hide (HT4.out.trans ht)
              have hB5 : w.heap.size ≤ x5.heap.size := Nat.le_trans hB4 ht.tch.size
              clear hb ht
              refine hK.out _ _ trivial (fun _ => ?_)
              clear hK K
              try simp only [Act.put, List.setIfInBounds_toArray, List.set_cons_zero, List.set_cons_succ]
              refine wpAnyH_ready (rs := [7]) (by kernel_rfl) (by simp) ?_
              refine AllReadyH.cons (o := { dst := none, op := Op.store 23 (Operand.tmp 8) (Operand.tmp 32), type := 0, pos := "walk.go:816", after := #[{ on := 5, ground := Ground.data }, { on := 3, ground := Ground.data }, { on := 6, ground := Ground.chain }, { on := 0, ground := Ground.phase }, { on := 1, ground := Ground.phase }, { on := 2, ground := Ground.phase }, { on := 3, ground := Ground.phase }, { on := 4, ground := Ground.phase }, { on := 5, ground := Ground.phase }, { on := 6, ground := Ground.phase }], guard := none }) rfl (fun K hK => ?_) (AllReadyH.nil)
              · skip
                have cz : x5.cell? ⟨Wd.heap.size, 0, none⟩ = some (.slice none 0 0) := Blk.cell (show Blk x5 Wd.heap.size 23 [.slice none 0 0] from HB5.out.say 3) 0
                have fz : x5.frozen? ⟨Wd.heap.size, 0, none⟩ = false := Blk.frozen (show Blk x5 Wd.heap.size 23 [.slice none 0 0] from HB5.out.say 3) 0
                go_simp
                obtain ⟨tg6, hb, ht⟩ := bag_set HB5.out 3 (by decide) (g := Wd.heap.size) (e := 23) (cs := [.slice none 0 0]) rfl 0 (.slice (some ⟨x2.heap.size, 0, none⟩) n n)
                clear cz fz
                generalize x5.setCell ⟨Wd.heap.size, 0, none⟩ (.slice (some ⟨x2.heap.size, 0, none⟩) n n) = x6 at *
                have HB6 := hide hb
                have HT6 := hide (HT5.out.trans ht)
                have hB6 : w.heap.size ≤ x6.heap.size := Nat.le_trans hB5 ht.tch.size
                clear hb ht
                refine hK.out _ _ trivial (fun _ => ?_)
                clear hK K
                try simp only [Act.put, List.setIfInBounds_toArray, List.set_cons_zero, List.set_cons_succ]
                refine wpAnyH_done (by kernel_rfl) ?_ _
                go_wp2_with fail
                go_meet
                case rel => exact ⟨_, x3.heap.size, Wd.heap.size, x1.heap.size, x2.heap.size, rfl, rfl, Bag.congr HB6.out (fun i => by match i with | 0 | 1 | 2 | 3 | 4 | 5 | 6 | 7 | 8 | 9 | 10 | 11 | 12 | 13 | 14 => rfl | k + 15 => rfl), HT6.out⟩
        · skip
          go_simp
          obtain ⟨tg3, hb, ht⟩ := bag_new HB2.out 2 (by decide) #[.slice none 0 0] 23
          generalize x2.alloc (.cells #[.slice none 0 0] 23) = x3 at *
          have HB3 := hide hb
          have HT3 := hide (HT2.out.trans ht)
          have hB3 : w.heap.size ≤ x3.heap.size := Nat.le_trans hB2 ht.tch.size
          clear hb ht
          refine hK.out _ _ trivial (fun _ => ?_)
          clear hK K
          try simp only [Act.put, List.setIfInBounds_toArray, List.set_cons_zero, List.set_cons_succ]
          refine wpAnyH_ready (rs := [3, 6]) (by kernel_rfl) (by simp) ?_
          refine AllReadyH.cons (o := { dst := some 32, op := Op.makeSlice 23 (Operand.tmp 31) (Operand.tmp 31), type := 23, pos := "walk.go:816", after := #[{ on := 2, ground := Ground.data }, { on := 2, ground := Ground.data }], guard := none }) rfl (fun K hK => ?_) (AllReadyH.cons (o := { dst := none, op := Op.store 23 (Operand.tmp 7) (Operand.tmp 30), type := 0, pos := "walk.go:816", after := #[{ on := 4, ground := Ground.data }, { on := 1, ground := Ground.data }, { on := 0, ground := Ground.phase }, { on := 1, ground := Ground.phase }, { on := 2, ground := Ground.textOnly Departure.lateStores }, { on := 3, ground := Ground.textOnly Departure.lateStoresUnsure }, { on := 4, ground := Ground.phase }, { on := 5, ground := Ground.phase }], guard := none }) rfl (fun K hK => ?_) (AllReadyH.nil))
          · skip
            refine step_mk HB3.out 9 (by decide) (B := w.heap.size) hB3 rfl (.tmp 31) rfl n rfl (by omega) ?_
            intro x4 tg4 hb ht
            have HB4 := hide hb
            have HT4 := hide (HT3.out.trans ht)
            have hB4 : w.heap.size ≤ x4.heap.size := Nat.le_trans hB3 ht.tch.size
            clear hb ht
            refine hK.out _ _ trivial (fun _ => ?_)
            clear hK K
            try simp only [Act.put, List.setIfInBounds_toArray, List.set_cons_zero, List.set_cons_succ]
            refine wpAnyH_ready (rs := [6]) (by kernel_rfl) (by simp) ?_
            refine AllReadyH.cons (o := { dst := none, op := Op.store 23 (Operand.tmp 7) (Operand.tmp 30), type := 0, pos := "walk.go:816", after := #[{ on := 4, ground := Ground.data }, { on := 1, ground := Ground.data }, { on := 0, ground := Ground.phase }, { on := 1, ground := Ground.phase }, { on := 2, ground := Ground.textOnly Departure.lateStores }, { on := 3, ground := Ground.textOnly Departure.lateStoresUnsure }, { on := 4, ground := Ground.phase }, { on := 5, ground := Ground.phase }], guard := none }) rfl (fun K hK => ?_) (AllReadyH.nil)
            · skip
              have cz : x4.cell? ⟨x2.heap.size, 0, none⟩ = some (.slice none 0 0) := Blk.cell (show Blk x4 x2.heap.size 23 [.slice none 0 0] from HB4.out.say 2) 0
              have fz : x4.frozen? ⟨x2.heap.size, 0, none⟩ = false := Blk.frozen (show Blk x4 x2.heap.size 23 [.slice none 0 0] from HB4.out.say 2) 0
              go_simp
              obtain ⟨tg5, hb, ht⟩ := bag_set HB4.out 2 (by decide) (g := x2.heap.size) (e := 23) (cs := [.slice none 0 0]) rfl 0 (.slice (some ⟨x1.heap.size, 0, none⟩) n n)
              clear cz fz
              generalize x4.setCell ⟨x2.heap.size, 0, none⟩ (.slice (some ⟨x1.heap.size, 0, none⟩) n n) = x5 at *
              have HB5 := hide hb
              have HT5 := hide (HT4.out.trans ht)
              have hB5 : w.heap.size ≤ x5.heap.size := Nat.le_trans hB4 ht.tch.size
              clear hb ht
              refine hK.out _ _ trivial (fun _ => ?_)
              clear hK K
              try simp only [Act.put, List.setIfInBounds_toArray, List.set_cons_zero, List.set_cons_succ]
              refine wpAnyH_ready (rs := [7]) (by kernel_rfl) (by simp) ?_
              refine AllReadyH.cons (o := { dst := none, op := Op.store 23 (Operand.tmp 8) (Operand.tmp 32), type := 0, pos := "walk.go:816", after := #[{ on := 5, ground := Ground.data }, { on := 3, ground := Ground.data }, { on := 6, ground := Ground.chain }, { on := 0, ground := Ground.phase }, { on := 1, ground := Ground.phase }, { on := 2, ground := Ground.phase }, { on := 3, ground := Ground.phase }, { on := 4, ground := Ground.phase }, { on := 5, ground := Ground.phase }, { on := 6, ground := Ground.phase }], guard := none }) rfl (fun K hK => ?_) (AllReadyH.nil)
              · skip
                have cz : x5.cell? ⟨Wd.heap.size, 0, none⟩ = some (.slice none 0 0) := Blk.cell (show Blk x5 Wd.heap.size 23 [.slice none 0 0] from HB5.out.say 3) 0
                have fz : x5.frozen? ⟨Wd.heap.size, 0, none⟩ = false := Blk.frozen (show Blk x5 Wd.heap.size 23 [.slice none 0 0] from HB5.out.say 3) 0
                go_simp
                obtain ⟨tg6, hb, ht⟩ := bag_set HB5.out 3 (by decide) (g := Wd.heap.size) (e := 23) (cs := [.slice none 0 0]) rfl 0 (.slice (some ⟨x3.heap.size, 0, none⟩) n n)
                clear cz fz
                generalize x5.setCell ⟨Wd.heap.size, 0, none⟩ (.slice (some ⟨x3.heap.size, 0, none⟩) n n) = x6 at *
                have HB6 := hide hb
                have HT6 := hide (HT5.out.trans ht)
                have hB6 : w.heap.size ≤ x6.heap.size := Nat.le_trans hB5 ht.tch.size
                clear hb ht
                refine hK.out _ _ trivial (fun _ => ?_)
                clear hK K
                try simp only [Act.put, List.setIfInBounds_toArray, List.set_cons_zero, List.set_cons_succ]
                refine wpAnyH_done (by kernel_rfl) ?_ _
                go_wp2_with fail
                go_meet
                case rel => exact ⟨_, x2.heap.size, Wd.heap.size, x1.heap.size, x3.heap.size, rfl, rfl, Bag.congr HB6.out (fun i => by match i with | 0 | 1 | 2 | 3 | 4 | 5 | 6 | 7 | 8 | 9 | 10 | 11 | 12 | 13 | 14 => rfl | k + 15 => rfl), HT6.out⟩
          · skip
            have cz : x3.cell? ⟨x2.heap.size, 0, none⟩ = some (.slice none 0 0) := Blk.cell (show Blk x3 x2.heap.size 23 [.slice none 0 0] from HB3.out.say 2) 0
            have fz : x3.frozen? ⟨x2.heap.size, 0, none⟩ = false := Blk.frozen (show Blk x3 x2.heap.size 23 [.slice none 0 0] from HB3.out.say 2) 0
            go_simp
            obtain ⟨tg4, hb, ht⟩ := bag_set HB3.out 2 (by decide) (g := x2.heap.size) (e := 23) (cs := [.slice none 0 0]) rfl 0 (.slice (some ⟨x1.heap.size, 0, none⟩) n n)
            clear cz fz
            generalize x3.setCell ⟨x2.heap.size, 0, none⟩ (.slice (some ⟨x1.heap.size, 0, none⟩) n n) = x4 at *
            have HB4 := hide hb
            have HT4 := hide (HT3.out.trans ht)
            have hB4 : w.heap.size ≤ x4.heap.size := Nat.le_trans hB3 ht.tch.size
            clear hb ht
            refine hK.out _ _ trivial (fun _ => ?_)
            clear hK K
            try simp only [Act.put, List.setIfInBounds_toArray, List.set_cons_zero, List.set_cons_succ]
            refine wpAnyH_ready (rs := [3]) (by kernel_rfl) (by simp) ?_
            refine AllReadyH.cons (o := { dst := some 32, op := Op.makeSlice 23 (Operand.tmp 31) (Operand.tmp 31), type := 23, pos := "walk.go:816", after := #[{ on := 2, ground := Ground.data }, { on := 2, ground := Ground.data }], guard := none }) rfl (fun K hK => ?_) (AllReadyH.nil)
            · skip
              refine step_mk HB4.out 9 (by decide) (B := w.heap.size) hB4 rfl (.tmp 31) rfl n rfl (by omega) ?_
              intro x5 tg5 hb ht
              have HB5 := hide hb
              have HT5 := hide (HT4.out.trans ht)
              have hB5 : w.heap.size ≤ x5.heap.size := Nat.le_trans hB4 ht.tch.size
              clear hb ht
              refine hK.out _ _ trivial (fun _ => ?_)
              clear hK K
              try simp only [Act.put, List.setIfInBounds_toArray, List.set_cons_zero, List.set_cons_succ]
              refine wpAnyH_ready (rs := [7]) (by kernel_rfl) (by simp) ?_
              refine AllReadyH.cons (o := { dst := none, op := Op.store 23 (Operand.tmp 8) (Operand.tmp 32), type := 0, pos := "walk.go:816", after := #[{ on := 5, ground := Ground.data }, { on := 3, ground := Ground.data }, { on := 6, ground := Ground.chain }, { on := 0, ground := Ground.phase }, { on := 1, ground := Ground.phase }, { on := 2, ground := Ground.phase }, { on := 3, ground := Ground.phase }, { on := 4, ground := Ground.phase }, { on := 5, ground := Ground.phase }, { on := 6, ground := Ground.phase }], guard := none }) rfl (fun K hK => ?_) (AllReadyH.nil)
              · skip
                have cz : x5.cell? ⟨Wd.heap.size, 0, none⟩ = some (.slice none 0 0) := Blk.cell (show Blk x5 Wd.heap.size 23 [.slice none 0 0] from HB5.out.say 3) 0
                have fz : x5.frozen? ⟨Wd.heap.size, 0, none⟩ = false := Blk.frozen (show Blk x5 Wd.heap.size 23 [.slice none 0 0] from HB5.out.say 3) 0
                go_simp
                obtain ⟨tg6, hb, ht⟩ := bag_set HB5.out 3 (by decide) (g := Wd.heap.size) (e := 23) (cs := [.slice none 0 0]) rfl 0 (.slice (some ⟨x4.heap.size, 0, none⟩) n n)
                clear cz fz
                generalize x5.setCell ⟨Wd.heap.size, 0, none⟩ (.slice (some ⟨x4.heap.size, 0, none⟩) n n) = x6 at *
                have HB6 := hide hb
                have HT6 := hide (HT5.out.trans ht)
                have hB6 : w.heap.size ≤ x6.heap.size := Nat.le_trans hB5 ht.tch.size
                clear hb ht
                refine hK.out _ _ trivial (fun _ => ?_)
                clear hK K
                try simp only [Act.put, List.setIfInBounds_toArray, List.set_cons_zero, List.set_cons_succ]
                refine wpAnyH_done (by kernel_rfl) ?_ _
                go_wp2_with fail
                go_meet
                case rel => exact ⟨_, x2.heap.size, Wd.heap.size, x1.heap.size, x4.heap.size, rfl, rfl, Bag.congr HB6.out (fun i => by match i with | 0 | 1 | 2 | 3 | 4 | 5 | 6 | 7 | 8 | 9 | 10 | 11 | 12 | 13 | 14 => rfl | k + 15 => rfl), HT6.out⟩
      · skip
        refine step_mk HB1.out 9 (by decide) (B := w.heap.size) hB1 rfl (.tmp 31) rfl n rfl (by omega) ?_
        intro x2 tg2 hb ht
        have HB2 := hide hb
        have HT2 := hide (HT1.out.trans ht)
        have hB2 : w.heap.size ≤ x2.heap.size := Nat.le_trans hB1 ht.tch.size
        clear hb ht
        refine hK.out _ _ trivial (fun _ => ?_)
        clear hK K
        try simp only [Act.put, List.setIfInBounds_toArray, List.set_cons_zero, List.set_cons_succ]
        refine wpAnyH_ready (rs := [1, 4]) (by kernel_rfl) (by simp) ?_
        refine AllReadyH.cons (o := { dst := some 30, op := Op.makeSlice 23 (Operand.tmp 29) (Operand.tmp 29), type := 23, pos := "walk.go:816", after := #[{ on := 0, ground := Ground.data }, { on := 0, ground := Ground.data }], guard := none }) rfl (fun K hK => ?_) (AllReadyH.cons (o := { dst := some 7, op := Op.alloc 23, type := 0, pos := "walk.go:816", after := #[], guard := none }) rfl (fun K hK => ?_) (AllReadyH.nil))
        · skip
          refine step_mk HB2.out 8 (by decide) (B := w.heap.size) hB2 rfl (.tmp 29) rfl n rfl (by omega) ?_
          intro x3 tg3 hb ht
          have HB3 := hide hb
          have HT3 := hide (HT2.out.trans ht)
          have hB3 : w.heap.size ≤ x3.heap.size := Nat.le_trans hB2 ht.tch.size
          clear hb ht
          refine hK.out _ _ trivial (fun _ => ?_)
          clear hK K
          try simp only [Act.put, List.setIfInBounds_toArray, List.set_cons_zero, List.set_cons_succ]
          refine wpAnyH_ready (rs := [4]) (by kernel_rfl) (by simp) ?_
          refine AllReadyH.cons (o := { dst := some 7, op := Op.alloc 23, type := 0, pos := "walk.go:816", after := #[], guard := none }) rfl (fun K hK => ?_) (AllReadyH.nil)
          · skip
            go_simp
            obtain ⟨tg4, hb, ht⟩ := bag_new HB3.out 2 (by decide) #[.slice none 0 0] 23
            generalize x3.alloc (.cells #[.slice none 0 0] 23) = x4 at *
            have HB4 := hide hb
            have HT4 := hide (HT3.out.trans ht)
            have hB4 : w.heap.size ≤ x4.heap.size := Nat.le_trans hB3 ht.tch.size
            clear hb ht
            refine hK.out _ _ trivial (fun _ => ?_)
            clear hK K
            try simp only [Act.put, List.setIfInBounds_toArray, List.set_cons_zero, List.set_cons_succ]
            refine wpAnyH_ready (rs := [6]) (by kernel_rfl) (by simp) ?_
            refine AllReadyH.cons (o := { dst := none, op := Op.store 23 (Operand.tmp 7) (Operand.tmp 30), type := 0, pos := "walk.go:816", after := #[{ on := 4, ground := Ground.data }, { on := 1, ground := Ground.data }, { on := 0, ground := Ground.phase }, { on := 1, ground := Ground.phase }, { on := 2, ground := Ground.textOnly Departure.lateStores }, { on := 3, ground := Ground.textOnly Departure.lateStoresUnsure }, { on := 4, ground := Ground.phase }, { on := 5, ground := Ground.phase }], guard := none }) rfl (fun K hK => ?_) (AllReadyH.nil)
            · skip
              have cz : x4.cell? ⟨x3.heap.size, 0, none⟩ = some (.slice none 0 0) := Blk.cell (show Blk x4 x3.heap.size 23 [.slice none 0 0] from HB4.out.say 2) 0
              have fz : x4.frozen? ⟨x3.heap.size, 0, none⟩ = false := Blk.frozen (show Blk x4 x3.heap.size 23 [.slice none 0 0] from HB4.out.say 2) 0
              go_simp
              obtain ⟨tg5, hb, ht⟩ := bag_set HB4.out 2 (by decide) (g := x3.heap.size) (e := 23) (cs := [.slice none 0 0]) rfl 0 (.slice (some ⟨x2.heap.size, 0, none⟩) n n)
              clear cz fz
              generalize x4.setCell ⟨x3.heap.size, 0, none⟩ (.slice (some ⟨x2.heap.size, 0, none⟩) n n) = x5 at *
              have HB5 := hide hb
              have HT5 := hide (HT4.out.trans ht)
              have hB5 : w.heap.size ≤ x5.heap.size := Nat.le_trans hB4 ht.tch.size
              clear hb ht
              refine hK.out _ _ trivial (fun _ => ?_)
              clear hK K
              try simp only [Act.put, List.setIfInBounds_toArray, List.set_cons_zero, List.set_cons_succ]
              refine wpAnyH_ready (rs := [7]) (by kernel_rfl) (by simp) ?_
              refine AllReadyH.cons (o := { dst := none, op := Op.store 23 (Operand.tmp 8) (Operand.tmp 32), type := 0, pos := "walk.go:816", after := #[{ on := 5, ground := Ground.data }, { on := 3, ground := Ground.data }, { on := 6, ground := Ground.chain }, { on := 0, ground := Ground.phase }, { on := 1, ground := Ground.phase }, { on := 2, ground := Ground.phase }, { on := 3, ground := Ground.phase }, { on := 4, ground := Ground.phase }, { on := 5, ground := Ground.phase }, { on := 6, ground := Ground.phase }], guard := none }) rfl (fun K hK => ?_) (AllReadyH.nil)
              · skip
                have cz : x5.cell? ⟨Wd.heap.size, 0, none⟩ = some (.slice none 0 0) := Blk.cell (show Blk x5 Wd.heap.size 23 [.slice none 0 0] from HB5.out.say 3) 0
                have fz : x5.frozen? ⟨Wd.heap.size, 0, none⟩ = false := Blk.frozen (show Blk x5 Wd.heap.size 23 [.slice none 0 0] from HB5.out.say 3) 0
                go_simp
                obtain ⟨tg6, hb, ht⟩ := bag_set HB5.out 3 (by decide) (g := Wd.heap.size) (e := 23) (cs := [.slice none 0 0]) rfl 0 (.slice (some ⟨x1.heap.size, 0, none⟩) n n)
                clear cz fz
                generalize x5.setCell ⟨Wd.heap.size, 0, none⟩ (.slice (some ⟨x1.heap.size, 0, none⟩) n n) = x6 at *
                have HB6 := hide hb
                have HT6 := hide (HT5.out.trans ht)
                have hB6 : w.heap.size ≤ x6.heap.size := Nat.le_trans hB5 ht.tch.size
                clear hb ht
                refine hK.out _ _ trivial (fun _ => ?_)
                clear hK K
                try simp only [Act.put, List.setIfInBounds_toArray, List.set_cons_zero, List.set_cons_succ]
                refine wpAnyH_done (by kernel_rfl) ?_ _
                go_wp2_with fail
                go_meet
                case rel => exact ⟨_, x3.heap.size, Wd.heap.size, x2.heap.size, x1.heap.size, rfl, rfl, Bag.congr HB6.out (fun i => by match i with | 0 | 1 | 2 | 3 | 4 | 5 | 6 | 7 | 8 | 9 | 10 | 11 | 12 | 13 | 14 => rfl | k + 15 => rfl), HT6.out⟩
        · skip
          go_simp
          obtain ⟨tg3, hb, ht⟩ := bag_new HB2.out 2 (by decide) #[.slice none 0 0] 23
          generalize x2.alloc (.cells #[.slice none 0 0] 23) = x3 at *
          have HB3 := hide hb
          have HT3 := hide (HT2.out.trans ht)
          have hB3 : w.heap.size ≤ x3.heap.size := Nat.le_trans hB2 ht.tch.size
          clear hb ht
          refine hK.out _ _ trivial (fun _ => ?_)
          clear hK K
          try simp only [Act.put, List.setIfInBounds_toArray, List.set_cons_zero, List.set_cons_succ]
          refine wpAnyH_ready (rs := [1]) (by kernel_rfl) (by simp) ?_
          refine AllReadyH.cons (o := { dst := some 30, op := Op.makeSlice 23 (Operand.tmp 29) (Operand.tmp 29), type := 23, pos := "walk.go:816", after := #[{ on := 0, ground := Ground.data }, { on := 0, ground := Ground.data }], guard := none }) rfl (fun K hK => ?_) (AllReadyH.nil)
          · skip
            refine step_mk HB3.out 8 (by decide) (B := w.heap.size) hB3 rfl (.tmp 29) rfl n rfl (by omega) ?_
            intro x4 tg4 hb ht
            have HB4 := hide hb
            have HT4 := hide (HT3.out.trans ht)
            have hB4 : w.heap.size ≤ x4.heap.size := Nat.le_trans hB3 ht.tch.size
            clear hb ht
            refine hK.out _ _ trivial (fun _ => ?_)
            clear hK K
            try simp only [Act.put, List.setIfInBounds_toArray, List.set_cons_zero, List.set_cons_succ]
            refine wpAnyH_ready (rs := [6]) (by kernel_rfl) (by simp) ?_
            refine AllReadyH.cons (o := { dst := none, op := Op.store 23 (Operand.tmp 7) (Operand.tmp 30), type := 0, pos := "walk.go:816", after := #[{ on := 4, ground := Ground.data }, { on := 1, ground := Ground.data }, { on := 0, ground := Ground.phase }, { on := 1, ground := Ground.phase }, { on := 2, ground := Ground.textOnly Departure.lateStores }, { on := 3, ground := Ground.textOnly Departure.lateStoresUnsure }, { on := 4, ground := Ground.phase }, { on := 5, ground := Ground.phase }], guard := none }) rfl (fun K hK => ?_) (AllReadyH.nil)
            · skip
              have cz : x4.cell? ⟨x2.heap.size, 0, none⟩ = some (.slice none 0 0) := Blk.cell (show Blk x4 x2.heap.size 23 [.slice none 0 0] from HB4.out.say 2) 0
              have fz : x4.frozen? ⟨x2.heap.size, 0, none⟩ = false := Blk.frozen (show Blk x4 x2.heap.size 23 [.slice none 0 0] from HB4.out.say 2) 0
              go_simp
              obtain ⟨tg5, hb, ht⟩ := bag_set HB4.out 2 (by decide) (g := x2.heap.size) (e := 23) (cs := [.slice none 0 0]) rfl 0 (.slice (some ⟨x3.heap.size, 0, none⟩) n n)
              clear cz fz
              generalize x4.setCell ⟨x2.heap.size, 0, none⟩ (.slice (some ⟨x3.heap.size, 0, none⟩) n n) = x5 at *
              have HB5 := hide hb
              have HT5 := hide (HT4.out.trans ht)
              have hB5 : w.heap.size ≤ x5.heap.size := Nat.le_trans hB4 ht.tch.size
              clear hb ht
              refine hK.out _ _ trivial (fun _ => ?_)
              clear hK K
              try simp only [Act.put, List.setIfInBounds_toArray, List.set_cons_zero, List.set_cons_succ]
              refine wpAnyH_ready (rs := [7]) (by kernel_rfl) (by simp) ?_
              refine AllReadyH.cons (o := { dst := none, op := Op.store 23 (Operand.tmp 8) (Operand.tmp 32), type := 0, pos := "walk.go:816", after := #[{ on := 5, ground := Ground.data }, { on := 3, ground := Ground.data }, { on := 6, ground := Ground.chain }, { on := 0, ground := Ground.phase }, { on := 1, ground := Ground.phase }, { on := 2, ground := Ground.phase }, { on := 3, ground := Ground.phase }, { on := 4, ground := Ground.phase }, { on := 5, ground := Ground.phase }, { on := 6, ground := Ground.phase }], guard := none }) rfl (fun K hK => ?_) (AllReadyH.nil)
              · skip
                have cz : x5.cell? ⟨Wd.heap.size, 0, none⟩ = some (.slice none 0 0) := Blk.cell (show Blk x5 Wd.heap.size 23 [.slice none 0 0] from HB5.out.say 3) 0
                have fz : x5.frozen? ⟨Wd.heap.size, 0, none⟩ = false := Blk.frozen (show Blk x5 Wd.heap.size 23 [.slice none 0 0] from HB5.out.say 3) 0
                go_simp
                obtain ⟨tg6, hb, ht⟩ := bag_set HB5.out 3 (by decide) (g := Wd.heap.size) (e := 23) (cs := [.slice none 0 0]) rfl 0 (.slice (some ⟨x1.heap.size, 0, none⟩) n n)
                clear cz fz
                generalize x5.setCell ⟨Wd.heap.size, 0, none⟩ (.slice (some ⟨x1.heap.size, 0, none⟩) n n) = x6 at *
                have HB6 := hide hb
                have HT6 := hide (HT5.out.trans ht)
                have hB6 : w.heap.size ≤ x6.heap.size := Nat.le_trans hB5 ht.tch.size
                clear hb ht
                refine hK.out _ _ trivial (fun _ => ?_)
                clear hK K
                try simp only [Act.put, List.setIfInBounds_toArray, List.set_cons_zero, List.set_cons_succ]
                refine wpAnyH_done (by kernel_rfl) ?_ _
                go_wp2_with fail
                go_meet
                case rel => exact ⟨_, x2.heap.size, Wd.heap.size, x3.heap.size, x1.heap.size, rfl, rfl, Bag.congr HB6.out (fun i => by match i with | 0 | 1 | 2 | 3 | 4 | 5 | 6 | 7 | 8 | 9 | 10 | 11 | 12 | 13 | 14 => rfl | k + 15 => rfl), HT6.out⟩
      · skip
        go_simp
        obtain ⟨tg2, hb, ht⟩ := bag_new HB1.out 2 (by decide) #[.slice none 0 0] 23
        generalize x1.alloc (.cells #[.slice none 0 0] 23) = x2 at *
        have HB2 := hide hb
        have HT2 := hide (HT1.out.trans ht)
        have hB2 : w.heap.size ≤ x2.heap.size := Nat.le_trans hB1 ht.tch.size
        clear hb ht
        refine hK.out _ _ trivial (fun _ => ?_)
        clear hK K
        try simp only [Act.put, List.setIfInBounds_toArray, List.set_cons_zero, List.set_cons_succ]
        refine wpAnyH_ready (rs := [1, 3]) (by kernel_rfl) (by simp) ?_
        refine AllReadyH.cons (o := { dst := some 30, op := Op.makeSlice 23 (Operand.tmp 29) (Operand.tmp 29), type := 23, pos := "walk.go:816", after := #[{ on := 0, ground := Ground.data }, { on := 0, ground := Ground.data }], guard := none }) rfl (fun K hK => ?_) (AllReadyH.cons (o := { dst := some 32, op := Op.makeSlice 23 (Operand.tmp 31) (Operand.tmp 31), type := 23, pos := "walk.go:816", after := #[{ on := 2, ground := Ground.data }, { on := 2, ground := Ground.data }], guard := none }) rfl (fun K hK => ?_) (AllReadyH.nil))
        · skip
          refine step_mk HB2.out 8 (by decide) (B := w.heap.size) hB2 rfl (.tmp 29) rfl n rfl (by omega) ?_
          intro x3 tg3 hb ht
          have HB3 := hide hb
          have HT3 := hide (HT2.out.trans ht)
          have hB3 : w.heap.size ≤ x3.heap.size := Nat.le_trans hB2 ht.tch.size
          clear hb ht
          refine hK.out _ _ trivial (fun _ => ?_)
          clear hK K
          try simp only [Act.put, List.setIfInBounds_toArray, List.set_cons_zero, List.set_cons_succ]
          refine wpAnyH_ready (rs := [3, 6]) (by kernel_rfl) (by simp) ?_
          refine AllReadyH.cons (o := { dst := some 32, op := Op.makeSlice 23 (Operand.tmp 31) (Operand.tmp 31), type := 23, pos := "walk.go:816", after := #[{ on := 2, ground := Ground.data }, { on := 2, ground := Ground.data }], guard := none }) rfl (fun K hK => ?_) (AllReadyH.cons (o := { dst := none, op := Op.store 23 (Operand.tmp 7) (Operand.tmp 30), type := 0, pos := "walk.go:816", after := #[{ on := 4, ground := Ground.data }, { on := 1, ground := Ground.data }, { on := 0, ground := Ground.phase }, { on := 1, ground := Ground.phase }, { on := 2, ground := Ground.textOnly Departure.lateStores }, { on := 3, ground := Ground.textOnly Departure.lateStoresUnsure }, { on := 4, ground := Ground.phase }, { on := 5, ground := Ground.phase }], guard := none }) rfl (fun K hK => ?_) (AllReadyH.nil))
          · skip
            refine step_mk HB3.out 9 (by decide) (B := w.heap.size) hB3 rfl (.tmp 31) rfl n rfl (by omega) ?_
            intro x4 tg4 hb ht
            have HB4 := hide hb
            have HT4 := hide (HT3.out.trans ht)
            have hB4 : w.heap.size ≤ x4.heap.size := Nat.le_trans hB3 ht.tch.size
            clear hb ht
            refine hK.out _ _ trivial (fun _ => ?_)
            clear hK K
            try simp only [Act.put, List.setIfInBounds_toArray, List.set_cons_zero, List.set_cons_succ]
            refine wpAnyH_ready (rs := [6]) (by kernel_rfl) (by simp) ?_
            refine AllReadyH.cons (o := { dst := none, op := Op.store 23 (Operand.tmp 7) (Operand.tmp 30), type := 0, pos := "walk.go:816", after := #[{ on := 4, ground := Ground.data }, { on := 1, ground := Ground.data }, { on := 0, ground := Ground.phase }, { on := 1, ground := Ground.phase }, { on := 2, ground := Ground.textOnly Departure.lateStores }, { on := 3, ground := Ground.textOnly Departure.lateStoresUnsure }, { on := 4, ground := Ground.phase }, { on := 5, ground := Ground.phase }], guard := none }) rfl (fun K hK => ?_) (AllReadyH.nil)
            · skip
              have cz : x4.cell? ⟨x1.heap.size, 0, none⟩ = some (.slice none 0 0) := Blk.cell (show Blk x4 x1.heap.size 23 [.slice none 0 0] from HB4.out.say 2) 0
              have fz : x4.frozen? ⟨x1.heap.size, 0, none⟩ = false := Blk.frozen (show Blk x4 x1.heap.size 23 [.slice none 0 0] from HB4.out.say 2) 0
              go_simp
              obtain ⟨tg5, hb, ht⟩ := bag_set HB4.out 2 (by decide) (g := x1.heap.size) (e := 23) (cs := [.slice none 0 0]) rfl 0 (.slice (some ⟨x2.heap.size, 0, none⟩) n n)
              clear cz fz
              generalize x4.setCell ⟨x1.heap.size, 0, none⟩ (.slice (some ⟨x2.heap.size, 0, none⟩) n n) = x5 at *
              have HB5 := hide hb
              have HT5 := hide (HT4.out.trans ht)
              have hB5 : w.heap.size ≤ x5.heap.size := Nat.le_trans hB4 ht.tch.size
              clear hb ht
              refine hK.out _ _ trivial (fun _ => ?_)
              clear hK K
              try simp only [Act.put, List.setIfInBounds_toArray, List.set_cons_zero, List.set_cons_succ]
              refine wpAnyH_ready (rs := [7]) (by kernel_rfl) (by simp) ?_
              refine AllReadyH.cons (o := { dst := none, op := Op.store 23 (Operand.tmp 8) (Operand.tmp 32), type := 0, pos := "walk.go:816", after := #[{ on := 5, ground := Ground.data }, { on := 3, ground := Ground.data }, { on := 6, ground := Ground.chain }, { on := 0, ground := Ground.phase }, { on := 1, ground := Ground.phase }, { on := 2, ground := Ground.phase }, { on := 3, ground := Ground.phase }, { on := 4, ground := Ground.phase }, { on := 5, ground := Ground.phase }, { on := 6, ground := Ground.phase }], guard := none }) rfl (fun K hK => ?_) (AllReadyH.nil)
              · skip
                have cz : x5.cell? ⟨Wd.heap.size, 0, none⟩ = some (.slice none 0 0) := Blk.cell (show Blk x5 Wd.heap.size 23 [.slice none 0 0] from HB5.out.say 3) 0
                have fz : x5.frozen? ⟨Wd.heap.size, 0, none⟩ = false := Blk.frozen (show Blk x5 Wd.heap.size 23 [.slice none 0 0] from HB5.out.say 3) 0
                go_simp
                obtain ⟨tg6, hb, ht⟩ := bag_set HB5.out 3 (by decide) (g := Wd.heap.size) (e := 23) (cs := [.slice none 0 0]) rfl 0 (.slice (some ⟨x3.heap.size, 0, none⟩) n n)
                clear cz fz
                generalize x5.setCell ⟨Wd.heap.size, 0, none⟩ (.slice (some ⟨x3.heap.size, 0, none⟩) n n) = x6 at *
                have HB6 := hide hb
                have HT6 := hide (HT5.out.trans ht)
                have hB6 : w.heap.size ≤ x6.heap.size := Nat.le_trans hB5 ht.tch.size
                clear hb ht
                refine hK.out _ _ trivial (fun _ => ?_)
                clear hK K
                try simp only [Act.put, List.setIfInBounds_toArray, List.set_cons_zero, List.set_cons_succ]
                refine wpAnyH_done (by kernel_rfl) ?_ _
                go_wp2_with fail
                go_meet
                case rel => exact ⟨_, x1.heap.size, Wd.heap.size, x2.heap.size, x3.heap.size, rfl, rfl, Bag.congr HB6.out (fun i => by match i with | 0 | 1 | 2 | 3 | 4 | 5 | 6 | 7 | 8 | 9 | 10 | 11 | 12 | 13 | 14 => rfl | k + 15 => rfl), HT6.out⟩
          · skip
            have cz : x3.cell? ⟨x1.heap.size, 0, none⟩ = some (.slice none 0 0) := Blk.cell (show Blk x3 x1.heap.size 23 [.slice none 0 0] from HB3.out.say 2) 0
            have fz : x3.frozen? ⟨x1.heap.size, 0, none⟩ = false := Blk.frozen (show Blk x3 x1.heap.size 23 [.slice none 0 0] from HB3.out.say 2) 0
            go_simp
            obtain ⟨tg4, hb, ht⟩ := bag_set HB3.out 2 (by decide) (g := x1.heap.size) (e := 23) (cs := [.slice none 0 0]) rfl 0 (.slice (some ⟨x2.heap.size, 0, none⟩) n n)
            clear cz fz
            generalize x3.setCell ⟨x1.heap.size, 0, none⟩ (.slice (some ⟨x2.heap.size, 0, none⟩) n n) = x4 at *
            have HB4 := hide hb
            have HT4 := hide (HT3.out.trans ht)
            have hB4 : w.heap.size ≤ x4.heap.size := Nat.le_trans hB3 ht.tch.size
            clear hb ht
            refine hK.out _ _ trivial (fun _ => ?_)
            clear hK K
            try simp only [Act.put, List.setIfInBounds_toArray, List.set_cons_zero, List.set_cons_succ]
            refine wpAnyH_ready (rs := [3]) (by kernel_rfl) (by simp) ?_
            refine AllReadyH.cons (o := { dst := some 32, op := Op.makeSlice 23 (Operand.tmp 31) (Operand.tmp 31), type := 23, pos := "walk.go:816", after := #[{ on := 2, ground := Ground.data }, { on := 2, ground := Ground.data }], guard := none }) rfl (fun K hK => ?_) (AllReadyH.nil)
            · skip
              refine step_mk HB4.out 9 (by decide) (B := w.heap.size) hB4 rfl (.tmp 31) rfl n rfl (by omega) ?_
              intro x5 tg5 hb ht
              have HB5 := hide hb
              have HT5 := hide (HT4.out.trans ht)
              have hB5 : w.heap.size ≤ x5.heap.size := Nat.le_trans hB4 ht.tch.size
              clear hb ht
              refine hK.out _ _ trivial (fun _ => ?_)
              clear hK K
              try simp only [Act.put, List.setIfInBounds_toArray, List.set_cons_zero, List.set_cons_succ]
              refine wpAnyH_ready (rs := [7]) (by kernel_rfl) (by simp) ?_
              refine AllReadyH.cons (o := { dst := none, op := Op.store 23 (Operand.tmp 8) (Operand.tmp 32), type := 0, pos := "walk.go:816", after := #[{ on := 5, ground := Ground.data }, { on := 3, ground := Ground.data }, { on := 6, ground := Ground.chain }, { on := 0, ground := Ground.phase }, { on := 1, ground := Ground.phase }, { on := 2, ground := Ground.phase }, { on := 3, ground := Ground.phase }, { on := 4, ground := Ground.phase }, { on := 5, ground := Ground.phase }, { on := 6, ground := Ground.phase }], guard := none }) rfl (fun K hK => ?_) (AllReadyH.nil)
              · skip
                have cz : x5.cell? ⟨Wd.heap.size, 0, none⟩ = some (.slice none 0 0) := Blk.cell (show Blk x5 Wd.heap.size 23 [.slice none 0 0] from HB5.out.say 3) 0
                have fz : x5.frozen? ⟨Wd.heap.size, 0, none⟩ = false := Blk.frozen (show Blk x5 Wd.heap.size 23 [.slice none 0 0] from HB5.out.say 3) 0
                go_simp
                obtain ⟨tg6, hb, ht⟩ := bag_set HB5.out 3 (by decide) (g := Wd.heap.size) (e := 23) (cs := [.slice none 0 0]) rfl 0 (.slice (some ⟨x4.heap.size, 0, none⟩) n n)
                clear cz fz
                generalize x5.setCell ⟨Wd.heap.size, 0, none⟩ (.slice (some ⟨x4.heap.size, 0, none⟩) n n) = x6 at *
                have HB6 := hide hb
                have HT6 := hide (HT5.out.trans ht)
                have hB6 : w.heap.size ≤ x6.heap.size := Nat.le_trans hB5 ht.tch.size
                clear hb ht
                refine hK.out _ _ trivial (fun _ => ?_)
                clear hK K
                try simp only [Act.put, List.setIfInBounds_toArray, List.set_cons_zero, List.set_cons_succ]
                refine wpAnyH_done (by kernel_rfl) ?_ _
                go_wp2_with fail
                go_meet
                case rel => exact ⟨_, x1.heap.size, Wd.heap.size, x2.heap.size, x4.heap.size, rfl, rfl, Bag.congr HB6.out (fun i => by match i with | 0 | 1 | 2 | 3 | 4 | 5 | 6 | 7 | 8 | 9 | 10 | 11 | 12 | 13 | 14 => rfl | k + 15 => rfl), HT6.out⟩
        · skip
          refine step_mk HB2.out 9 (by decide) (B := w.heap.size) hB2 rfl (.tmp 31) rfl n rfl (by omega) ?_
          intro x3 tg3 hb ht
          have HB3 := hide hb
          have HT3 := hide (HT2.out.trans ht)
          have hB3 : w.heap.size ≤ x3.heap.size := Nat.le_trans hB2 ht.tch.size
          clear hb ht
          refine hK.out _ _ trivial (fun _ => ?_)
          clear hK K
          try simp only [Act.put, List.setIfInBounds_toArray, List.set_cons_zero, List.set_cons_succ]
          refine wpAnyH_ready (rs := [1]) (by kernel_rfl) (by simp) ?_
          refine AllReadyH.cons (o := { dst := some 30, op := Op.makeSlice 23 (Operand.tmp 29) (Operand.tmp 29), type := 23, pos := "walk.go:816", after := #[{ on := 0, ground := Ground.data }, { on := 0, ground := Ground.data }], guard := none }) rfl (fun K hK => ?_) (AllReadyH.nil)
          · skip
            refine step_mk HB3.out 8 (by decide) (B := w.heap.size) hB3 rfl (.tmp 29) rfl n rfl (by omega) ?_
            intro x4 tg4 hb ht
            have HB4 := hide hb
            have HT4 := hide (HT3.out.trans ht)
            have hB4 : w.heap.size ≤ x4.heap.size := Nat.le_trans hB3 ht.tch.size
            clear hb ht
            refine hK.out _ _ trivial (fun _ => ?_)
            clear hK K
            try simp only [Act.put, List.setIfInBounds_toArray, List.set_cons_zero, List.set_cons_succ]
            refine wpAnyH_ready (rs := [6]) (by kernel_rfl) (by simp) ?_
            refine AllReadyH.cons (o := { dst := none, op := Op.store 23 (Operand.tmp 7) (Operand.tmp 30), type := 0, pos := "walk.go:816", after := #[{ on := 4, ground := Ground.data }, { on := 1, ground := Ground.data }, { on := 0, ground := Ground.phase }, { on := 1, ground := Ground.phase }, { on := 2, ground := Ground.textOnly Departure.lateStores }, { on := 3, ground := Ground.textOnly Departure.lateStoresUnsure }, { on := 4, ground := Ground.phase }, { on := 5, ground := Ground.phase }], guard := none }) rfl (fun K hK => ?_) (AllReadyH.nil)
            · skip
              have cz : x4.cell? ⟨x1.heap.size, 0, none⟩ = some (.slice none 0 0) := Blk.cell (show Blk x4 x1.heap.size 23 [.slice none 0 0] from HB4.out.say 2) 0
              have fz : x4.frozen? ⟨x1.heap.size, 0, none⟩ = false := Blk.frozen (show Blk x4 x1.heap.size 23 [.slice none 0 0] from HB4.out.say 2) 0
              go_simp
              obtain ⟨tg5, hb, ht⟩ := bag_set HB4.out 2 (by decide) (g := x1.heap.size) (e := 23) (cs := [.slice none 0 0]) rfl 0 (.slice (some ⟨x3.heap.size, 0, none⟩) n n)
              clear cz fz
              generalize x4.setCell ⟨x1.heap.size, 0, none⟩ (.slice (some ⟨x3.heap.size, 0, none⟩) n n) = x5 at *
              have HB5 := hide hb
              have HT5 := hide (HT4.out.trans ht)
              have hB5 : w.heap.size ≤ x5.heap.size := Nat.le_trans hB4 ht.tch.size
              clear hb ht
              refine hK.out _ _ trivial (fun _ => ?_)
              clear hK K
              try simp only [Act.put, List.setIfInBounds_toArray, List.set_cons_zero, List.set_cons_succ]
              refine wpAnyH_ready (rs := [7]) (by kernel_rfl) (by simp) ?_
              refine AllReadyH.cons (o := { dst := none, op := Op.store 23 (Operand.tmp 8) (Operand.tmp 32), type := 0, pos := "walk.go:816", after := #[{ on := 5, ground := Ground.data }, { on := 3, ground := Ground.data }, { on := 6, ground := Ground.chain }, { on := 0, ground := Ground.phase }, { on := 1, ground := Ground.phase }, { on := 2, ground := Ground.phase }, { on := 3, ground := Ground.phase }, { on := 4, ground := Ground.phase }, { on := 5, ground := Ground.phase }, { on := 6, ground := Ground.phase }], guard := none }) rfl (fun K hK => ?_) (AllReadyH.nil)
              · skip
                have cz : x5.cell? ⟨Wd.heap.size, 0, none⟩ = some (.slice none 0 0) := Blk.cell (show Blk x5 Wd.heap.size 23 [.slice none 0 0] from HB5.out.say 3) 0
                have fz : x5.frozen? ⟨Wd.heap.size, 0, none⟩ = false := Blk.frozen (show Blk x5 Wd.heap.size 23 [.slice none 0 0] from HB5.out.say 3) 0
                go_simp
                obtain ⟨tg6, hb, ht⟩ := bag_set HB5.out 3 (by decide) (g := Wd.heap.size) (e := 23) (cs := [.slice none 0 0]) rfl 0 (.slice (some ⟨x2.heap.size, 0, none⟩) n n)
                clear cz fz
                generalize x5.setCell ⟨Wd.heap.size, 0, none⟩ (.slice (some ⟨x2.heap.size, 0, none⟩) n n) = x6 at *
                have HB6 := hide hb
                have HT6 := hide (HT5.out.trans ht)
                have hB6 : w.heap.size ≤ x6.heap.size := Nat.le_trans hB5 ht.tch.size
                clear hb ht
                refine hK.out _ _ trivial (fun _ => ?_)
                clear hK K
                try simp only [Act.put, List.setIfInBounds_toArray, List.set_cons_zero, List.set_cons_succ]
                refine wpAnyH_done (by kernel_rfl) ?_ _
                go_wp2_with fail
                go_meet
                case rel => exact ⟨_, x1.heap.size, Wd.heap.size, x3.heap.size, x2.heap.size, rfl, rfl, Bag.congr HB6.out (fun i => by match i with | 0 | 1 | 2 | 3 | 4 | 5 | 6 | 7 | 8 | 9 | 10 | 11 | 12 | 13 | 14 => rfl | k + 15 => rfl), HT6.out⟩
  case rest =>
    obtain ⟨tag2, b2, b3, gi, gl, rfl, rfl, hb, ht⟩ := hcut
    clear HB HT hB
    have HB := hide hb
    have HT := hide ht
    have hB : w.heap.size ≤ wc.heap.size := ht.tch.size
    clear hb ht
    generalize hbs : w.heap.size = b7 at HB
    generalize wc = wC at *
    go_upto_region 3 with fail
    go_cut [9, 10] (fun v9 v10 wx => ∃ tag gm gy, v9 = .slice (some ⟨gm, 0, none⟩) n n ∧ v10 = .slice (some ⟨gy, 0, none⟩) n n ∧ Bag wx tag (T2 b7 n b7 b2 b3 gi gl gm gy (.slice (some ⟨gs, 0, none⟩) (n + 1) (n + 1))) ∧ TB (fun _ => 0) w tag wx)
    case first =>
      have HB0 := hide (HB.out.keep (w' := wC.drew) ⟨rfl, rfl, rfl, Nat.le_refl _, fun _ _ _ => rfl⟩)
      have HT0 := hide (HT.out.trans (TB.keep (w' := wC.drew) ⟨rfl, rfl, rfl, Nat.le_refl _, fun _ _ _ => rfl⟩))
      have hB0 : b7 ≤ wC.drew.heap.size := by rw [← hbs]; exact hB
      clear HB HT hB
      refine wp_region_held_drew (S := fun _ => True) (by kernel_rfl) trivial (fun hHeld => ?_)
      clear hHeld
      generalize wC.drew = Wd at *
      refine wpAnyH_take (i := 0) (oi := { dst := some 33, op := Op.move (Operand.tmp 6), type := 21, pos := "walk.go:817", after := #[], guard := none }) (v := .int .i32 (n : Int)) rfl (by kernel_rfl) (by kernel_rfl) (by kernel_rfl) (fun _ _ _ h => h) (Or.inl ⟨by rfl, fun w0 hSw => by go_simp⟩) trivial ?_
      try simp only [Act.put, List.setIfInBounds_toArray, List.set_cons_zero, List.set_cons_succ]
      refine wpAnyH_take (i := 2) (oi := { dst := some 35, op := Op.move (Operand.tmp 6), type := 21, pos := "walk.go:817", after := #[], guard := none }) (v := .int .i32 (n : Int)) rfl (by kernel_rfl) (by kernel_rfl) (by kernel_rfl) (fun _ _ _ h => h) (Or.inl ⟨by rfl, fun w0 hSw => by go_simp⟩) trivial ?_
      try simp only [Act.put, List.setIfInBounds_toArray, List.set_cons_zero, List.set_cons_succ]
      refine wpAnyH_ready (rs := [1, 3]) (by kernel_rfl) (by simp) ?_
      refine AllReadyH.cons (o := { dst := some 34, op := Op.makeSlice 23 (Operand.tmp 33) (Operand.tmp 33), type := 23, pos := "walk.go:817", after := #[{ on := 0, ground := Ground.data }, { on := 0, ground := Ground.data }], guard := none }) rfl (fun K hK => ?_) (AllReadyH.cons (o := { dst := some 36, op := Op.makeSlice 44 (Operand.tmp 35) (Operand.tmp 35), type := 44, pos := "walk.go:817", after := #[{ on := 2, ground := Ground.data }, { on := 2, ground := Ground.data }], guard := none }) rfl (fun K hK => ?_) (AllReadyH.nil))
      · skip
        refine step_mk HB0.out 13 (by decide) (B := b7) hB0 rfl (.tmp 33) rfl n rfl (by omega) ?_
        intro x1 tg1 hb ht
        have HB1 := hide hb
        have HT1 := hide (HT0.out.trans ht)
        have hB1 : b7 ≤ x1.heap.size := Nat.le_trans hB0 ht.tch.size
        clear hb ht
        refine hK.out _ _ trivial (fun _ => ?_)
        clear hK K
        try simp only [Act.put, List.setIfInBounds_toArray, List.set_cons_zero, List.set_cons_succ]
        refine wpAnyH_take (i := 4) (oi := { dst := some 9, op := Op.assign (Operand.tmp 34), type := 23, pos := "walk.go:817", after := #[{ on := 1, ground := Ground.data }, { on := 0, ground := Ground.phase }, { on := 1, ground := Ground.phase }, { on := 2, ground := Ground.textOnly Departure.lateStores }, { on := 3, ground := Ground.textOnly Departure.lateStoresUnsure }], guard := none }) (v := .slice (some ⟨Wd.heap.size, 0, none⟩) n n) rfl (by kernel_rfl) (by kernel_rfl) (by kernel_rfl) (fun _ _ _ h => h) (Or.inl ⟨by rfl, fun w0 hSw => by go_simp⟩) trivial ?_
        try simp only [Act.put, List.setIfInBounds_toArray, List.set_cons_zero, List.set_cons_succ]
        refine wpAnyH_ready (rs := [3]) (by kernel_rfl) (by simp) ?_
        refine AllReadyH.cons (o := { dst := some 36, op := Op.makeSlice 44 (Operand.tmp 35) (Operand.tmp 35), type := 44, pos := "walk.go:817", after := #[{ on := 2, ground := Ground.data }, { on := 2, ground := Ground.data }], guard := none }) rfl (fun K hK => ?_) (AllReadyH.nil)
        · skip
          refine step_mkB HB1.out 14 (by decide) (B := b7) hB1 rfl (.tmp 35) rfl n rfl (by omega) ?_
          intro x2 tg2 hb ht
          have HB2 := hide hb
          have HT2 := hide (HT1.out.trans ht)
          have hB2 : b7 ≤ x2.heap.size := Nat.le_trans hB1 ht.tch.size
          clear hb ht
          refine hK.out _ _ trivial (fun _ => ?_)
          clear hK K
          try simp only [Act.put, List.setIfInBounds_toArray, List.set_cons_zero, List.set_cons_succ]
          refine wpAnyH_take (i := 5) (oi := { dst := some 10, op := Op.assign (Operand.tmp 36), type := 44, pos := "walk.go:817", after := #[{ on := 3, ground := Ground.data }, { on := 4, ground := Ground.chain }, { on := 0, ground := Ground.phase }, { on := 1, ground := Ground.phase }, { on := 2, ground := Ground.phase }, { on := 3, ground := Ground.phase }, { on := 4, ground := Ground.phase }], guard := none }) (v := .slice (some ⟨x1.heap.size, 0, none⟩) n n) rfl (by kernel_rfl) (by kernel_rfl) (by kernel_rfl) (fun _ _ _ h => h) (Or.inl ⟨by rfl, fun w0 hSw => by go_simp⟩) trivial ?_
          try simp only [Act.put, List.setIfInBounds_toArray, List.set_cons_zero, List.set_cons_succ]
          refine wpAnyH_done (by kernel_rfl) ?_ _
          go_wp2_with fail
          go_meet
          case rel => exact ⟨_, Wd.heap.size, x1.heap.size, rfl, rfl, Bag.congr HB2.out (fun i => by match i with | 0 | 1 | 2 | 3 | 4 | 5 | 6 | 7 | 8 | 9 | 10 | 11 | 12 | 13 | 14 => rfl | k + 15 => rfl), HT2.out⟩
      · skip
        refine step_mkB HB0.out 14 (by decide) (B := b7) hB0 rfl (.tmp 35) rfl n rfl (by omega) ?_
        intro x1 tg1 hb ht
        have HB1 := hide hb
        have HT1 := hide (HT0.out.trans ht)
        have hB1 : b7 ≤ x1.heap.size := Nat.le_trans hB0 ht.tch.size
        clear hb ht
        refine hK.out _ _ trivial (fun _ => ?_)
        clear hK K
        try simp only [Act.put, List.setIfInBounds_toArray, List.set_cons_zero, List.set_cons_succ]
        refine wpAnyH_ready (rs := [1]) (by kernel_rfl) (by simp) ?_
        refine AllReadyH.cons (o := { dst := some 34, op := Op.makeSlice 23 (Operand.tmp 33) (Operand.tmp 33), type := 23, pos := "walk.go:817", after := #[{ on := 0, ground := Ground.data }, { on := 0, ground := Ground.data }], guard := none }) rfl (fun K hK => ?_) (AllReadyH.nil)
        · skip
          refine step_mk HB1.out 13 (by decide) (B := b7) hB1 rfl (.tmp 33) rfl n rfl (by omega) ?_
          intro x2 tg2 hb ht
          have HB2 := hide hb
          have HT2 := hide (HT1.out.trans ht)
          have hB2 : b7 ≤ x2.heap.size := Nat.le_trans hB1 ht.tch.size
          clear hb ht
          refine hK.out _ _ trivial (fun _ => ?_)
          clear hK K
          try simp only [Act.put, List.setIfInBounds_toArray, List.set_cons_zero, List.set_cons_succ]
          refine wpAnyH_take (i := 4) (oi := { dst := some 9, op := Op.assign (Operand.tmp 34), type := 23, pos := "walk.go:817", after := #[{ on := 1, ground := Ground.data }, { on := 0, ground := Ground.phase }, { on := 1, ground := Ground.phase }, { on := 2, ground := Ground.textOnly Departure.lateStores }, { on := 3, ground := Ground.textOnly Departure.lateStoresUnsure }], guard := none }) (v := .slice (some ⟨x1.heap.size, 0, none⟩) n n) rfl (by kernel_rfl) (by kernel_rfl) (by kernel_rfl) (fun _ _ _ h => h) (Or.inl ⟨by rfl, fun w0 hSw => by go_simp⟩) trivial ?_
          try simp only [Act.put, List.setIfInBounds_toArray, List.set_cons_zero, List.set_cons_succ]
          refine wpAnyH_take (i := 5) (oi := { dst := some 10, op := Op.assign (Operand.tmp 36), type := 44, pos := "walk.go:817", after := #[{ on := 3, ground := Ground.data }, { on := 4, ground := Ground.chain }, { on := 0, ground := Ground.phase }, { on := 1, ground := Ground.phase }, { on := 2, ground := Ground.phase }, { on := 3, ground := Ground.phase }, { on := 4, ground := Ground.phase }], guard := none }) (v := .slice (some ⟨Wd.heap.size, 0, none⟩) n n) rfl (by kernel_rfl) (by kernel_rfl) (by kernel_rfl) (fun _ _ _ h => h) (Or.inl ⟨by rfl, fun w0 hSw => by go_simp⟩) trivial ?_
          try simp only [Act.put, List.setIfInBounds_toArray, List.set_cons_zero, List.set_cons_succ]
          refine wpAnyH_done (by kernel_rfl) ?_ _
          go_wp2_with fail
          go_meet
          case rel => exact ⟨_, x1.heap.size, Wd.heap.size, rfl, rfl, Bag.congr HB2.out (fun i => by match i with | 0 | 1 | 2 | 3 | 4 | 5 | 6 | 7 | 8 | 9 | 10 | 11 | 12 | 13 | 14 => rfl | k + 15 => rfl), HT2.out⟩
    case rest =>
      clear HB HT hB
      obtain ⟨tag3, gm, gy, rfl, rfl, hb, ht⟩ := hcut
      have HB := hide hb
      have HT := hide ht
      have hB : b7 ≤ wc.heap.size := by rw [← hbs]; exact ht.tch.size
      clear hb ht
      obtain ⟨i0, hi, hz0, hz1, hz2⟩ := info_parts info4
      go_upto_region 5 with (first
        | (refine wpList_make_full _ rfl (.tmp 37) (.tmp 37) 44 rfl wc.heap.size 4 i0 (.bool false) 1 Yba.underlying44 hi hz0 hz1 .i32 .i32 _ _ n rfl rfl rfl rfl (by rw [hz2]; omega) (by unfold maxLen; omega) (Nat.le_refl _) ?_; intro w1 hown1 hgr1; obtain ⟨tag4, hb4, ht4⟩ := bag_makeB HB.out 11 (by decide) hB (OwnB.made hown1) ((Tch.refl _ _).of_grownBy hgr1 (by simp)); have HB4 := hide hb4; have HT4 := hide (HT.out.trans ht4); clear hown1 hgr1 hb4 ht4) | fail)
      obtain ⟨tag5, hb5, ht5⟩ := bag_new HB4.out 5 (by decide) #[.slice (some ⟨wc.heap.size, 0, none⟩) n n] 44
      have HB5 := hide hb5
      have HT5 := hide (HT4.out.trans ht5)
      clear hb5 ht5 HB4 HT4
      generalize w1.alloc (.cells #[.slice (some ⟨wc.heap.size, 0, none⟩) n n] 44) = w2 at *
      go_upto_region 6 with fail
      obtain ⟨tag6, hb6, ht6⟩ := bag_new HB5.out 4 (by decide) #[.slice none 0 0] 23
      have HB6 := hide hb6
      have HT6 := hide (HT5.out.trans ht6)
      clear hb6 ht6 HB5 HT5
      generalize w2.alloc (.cells #[.slice none 0 0] 23) = w3 at *
      go_upto_region 7 with fail
      obtain ⟨tag7, hb7, ht7⟩ := bag_new HB6.out 6 (by decide) #[.slice none 0 0] 109
      have HB7 := hide hb7
      have HT7 := hide (HT6.out.trans ht7)
      clear hb7 ht7 HB6 HT6
      generalize w3.alloc (.cells #[.slice none 0 0] 109) = w4 at *
      go_upto_region 8 with fail
      obtain ⟨tag8, hb8, ht8⟩ := bag_new HB7.out 1 (by decide) #[.int .i32 0] 21
      have HT8 := hide (HT7.out.trans ht8)
      obtain ⟨tag9, hb9, ht9⟩ := hb8.put 10 (by decide) (Tch.refl _ _) (slT .i32 21 b7 (.slice none 0 0) []) (slT_fine _ _ _ _ _) (Own.nil _ _ _ _) (fun g hg => by cases hg)
      obtain ⟨tag10, hb10, ht10⟩ := hb9.put 12 (by decide) (Tch.refl _ _) (prT 111 b7 (.slice none 0 0) []) (prT_fine _ _ _ _) (Own2.nil _ _ _) (fun g hg => by cases hg)
      generalize hgo : wc.heap.size = go at *
      generalize hb5 : w1.heap.size = b5 at *
      generalize hb4 : w2.heap.size = b4 at *
      generalize hb6 : w3.heap.size = b6 at *
      generalize hb1 : w4.heap.size = b1 at *
      have hbF : Bag (w4.alloc (.cells #[.int .i32 0] 21)) tag10 (T ⟨b7, n, b1, b2, b3, b4, b5, b6, b7, gi, gl, go, gm, gy, .slice (some ⟨gs, 0, none⟩) (n + 1) (n + 1)⟩ ⟨0, List.replicate n 0, List.replicate n 0, List.replicate n 0, List.replicate n false, List.replicate n false, .slice none 0 0, .slice none 0 0, [], .slice none 0 0, .slice none 0 0, []⟩) :=
        Bag.congr hb10 (fun i => by match i with | 0 | 1 | 2 | 3 | 4 | 5 | 6 | 7 | 8 | 9 | 10 | 11 | 12 | 13 | 14 => rfl | k + 15 => rfl)
      have htF := (HT8.out.trans ht9).trans ht10
      have ros := (RO.mk HS.out rfl : RO w (fun _ => 0) gs (n + 1) st).tb htF
      have roh := (RO.mk HH.out rfl : RO w (fun _ => 0) gh m hd).tb htF
      have HO := hide (show Outr w ⟨b7, n, b1, b2, b3, b4, b5, b6, b7, gi, gl, go, gm, gy, .slice (some ⟨gs, 0, none⟩) (n + 1) (n + 1)⟩ A gs gh m st hd 0 (.int .i32 0) (w4.alloc (.cells #[.int .i32 0] 21)) from
        ⟨Tj.init, rfl, ⟨tag10, _, hbF, htF, Rl.start n hd A, ros, roh⟩, fun x hx => by omega⟩)
      clear HT8 hb8 ht8 hb9 ht9 hb10 ht10 hbF htF ros roh HB7 HT7 HB HT hB
      generalize w4.alloc (.cells #[.int .i32 0] 21) = w5 at *
      have hAm : A.length = m := by have := HC.out.len; have := HH.out.len; omega
      have HB7 := hide (show b7 ≤ w.heap.size by omega)
      clear hgo hb5 hb4 hb6 hb1 hi hz0 hz1 hz2
      go_upto_region 9 with fail
      rename_i K1 hK1 K2 hK2
      exact comp_tail _ _ _ _ _ _ _ _ _ _ _ _ _ _ _ _ _ _ _ _ _ _ _ _ _ _ _ _ _ _ _ _ _ _ _ _ _ _ _ _ _ _ _ _ _ _ _ _ _ _ _ _ _ _ _ _ _ _ _ _ _ _ _ _ _ _ _ _ _ _ _ _ _ _ _ _ _ _ _ _ _ _ _ _ _ _ _ _ _ _ _ _ _ _ _ _ _ _ _ _ _ _ _ _ _ _ _ _ _ _ _ _ _ _ _ _ _ _ _ _ _ _ _ _ _ _ _ _ _ _ _ _ _ _ _ _ _ _ _ _ _ _ _ _ _ _ _ _ _ _ _ _ _ _ _ _ _ _ _ _ _ _ _ _ _ _ _ _ _ _ _ _ _ _ _ _ _ _ _ _ _ _ _ _ _ _ _ _ _ _ _ w w5 n m gs gh b1 b2 b3 b4 b5 b6 b7 gi gl go gm gy A st hd hn hm hAm HA.out HC.out hbs.symm HO.out K1 K2 hK1 hK2
end Go.Proofs.Ybulkaxc.Cm
