/-
  roundSearch.leads, by contract.
-/
import Derived.Test.YbulkaxcDoorFwd
import Derived.Deep.RegionHeld3
namespace Go.Proofs.YbulkaxcDoor.Leads
open Go Go.RowKit Go.Proofs.YbulkaxcDoor.Mem Go.Proofs.YbulkaxcDoor.Pl Go.Proofs.YbulkaxcDoor.RS Go.Proofs.YbulkaxcDoor.Dg Go.Proofs.YbulkaxcDoor.Sr Go.Proofs.YbulkaxcDoor.Fwd
set_option linter.unusedVariables false

abbrev Cell (w : World) (p : Addr) (v : Value) : Prop := w.cell? p = some v
def LPost (w : World) (B grs gd n : Nat) (tag : Nat → Nat) (s : Rs) (A : List (Nat × Nat)) (y x : Nat) (b : Bool) (w' : World) : Prop :=
  ∃ tag' onw stk vs mk, RS w' B grs gd (2 * n) tag' { s with srch := s.srch + 1, onw := onw, stk := stk, vs := vs, marked := mk } ∧ TT tag w tag' w' ∧ (∀ (i : Nat) (v : Int), onw[i]? = some v → v ≤ s.srch + 1) ∧ (b = true ↔ R A y x)

def LRet (w : World) (B grs gd n : Nat) (tag : Nat → Nat) (s : Rs) (A : List (Nat × Nat)) (y x : Nat) (e : Ending) (w' : World) : Prop := ∃ b, e = .returned (.bool b) ∧ LPost w B grs gd n tag s A y x b w'
theorem LRet.mk {w : World} {B grs gd n : Nat} {tag : Nat → Nat} {s : Rs} {A : List (Nat × Nat)} {y x : Nat} {e : Ending} {w' : World} (b : Bool) (he : e = .returned (.bool b)) (h : LPost w B grs gd n tag s A y x b w') : LRet w B grs gd n tag s A y x e w' := ⟨b, he, h⟩

set_option maxRecDepth 10000 in
set_option maxHeartbeats 2000000 in
theorem leads_any (w : World) (B grs gd gg ga gh gs n m cl gr go cr co y x : Nat) (al : Option Addr) (tag : Nat → Nat) (s : Rs) (A : List (Nat × Nat)) (st hd : List Int) (h : RS w B grs gd (2 * n) tag s) (d : DG w tag gd gg ga gh gs n m al cl A st hd)
    (er : s.vr = .slice (some ⟨gr, 0, none⟩) (2 * n) cr) (eo : s.vo = .slice (some ⟨go, 0, none⟩) (2 * n) co)
    (hle : ∀ (i : Nat) (v : Int), s.onw[i]? = some v → v ≤ s.srch) (hs0 : 0 ≤ s.srch) (hs1 : s.srch ≤ 1000) (hy : y < 2 * n) (hx : x < 2 * n) :
    Calls Ybad.prog 12 #[.pointer (some ⟨grs, 0, none⟩), .int .i32 (y : Int), .int .i32 (x : Int), .bool true] w
      fun e w' => LRet w B grs gd n tag s A y x e w' := by
  have k0 : w.cell? ⟨grs, 0, none⟩ = some (.pointer (some ⟨gd, 0, none⟩)) := h.blk.cell 0
  have hgl := h.blk.lt
  have HR := hide h
  have HD := hide d
  have HER := hide er
  have HEO := hide eo
  have HLE := hide hle
  clear h d er eo hle
  go_enter Ybad.func12, Ybad.ntmps12
  go_upto_region 1 with fail
  have T1 := hide ((((Tch.refl Non w).alloc (.cells #[.pointer (some ⟨grs, 0, none⟩)] 23)).alloc (.cells #[.int .i32 (x : Int)] 21)).alloc (.cells #[.bool true] 4))
  have c1 := (Blk.new w #[.pointer (some ⟨grs, 0, none⟩)] 23).alloc (.cells #[.int .i32 (x : Int)] 21) |>.alloc (.cells #[.bool true] 4)
  have c2 := (Blk.new (w.alloc (.cells #[.pointer (some ⟨grs, 0, none⟩)] 23)) #[.int .i32 (x : Int)] 21).alloc (.cells #[.bool true] 4)
  have c3 := Blk.new ((w.alloc (.cells #[.pointer (some ⟨grs, 0, none⟩)] 23)).alloc (.cells #[.int .i32 (x : Int)] 21)) #[.bool true] 4
  simp only [World.size_alloc] at c2 c3
  generalize ((w.alloc (.cells #[.pointer (some ⟨grs, 0, none⟩)] 23)).alloc (.cells #[.int .i32 (x : Int)] 21)).alloc (.cells #[.bool true] 4) = W at *
  have k0 := T1.out.cell k0 (fun h => h)
  have l1 : W.cell? ⟨w.heap.size, 0, none⟩ = some (.pointer (some ⟨grs, 0, none⟩)) := c1.cell 0
  have HC := hide (And.intro c1 (And.intro c2 c3))
  have hsz : w.heap.size + 3 ≤ W.heap.size := by have := c3.lt; omega
  clear c1 c2 c3
  go_upto_region 2 with fail
  have T2 := hide (T1.out.alloc (.cells #[.pointer (some ⟨gd, 0, none⟩)] 55))
  have d1 := HC.out.1.alloc (.cells #[.pointer (some ⟨gd, 0, none⟩)] 55)
  have d2 := HC.out.2.1.alloc (.cells #[.pointer (some ⟨gd, 0, none⟩)] 55)
  have d3 := HC.out.2.2.alloc (.cells #[.pointer (some ⟨gd, 0, none⟩)] 55)
  have d4 := Blk.new W #[.pointer (some ⟨gd, 0, none⟩)] 55
  clear HC
  generalize W.alloc (.cells #[.pointer (some ⟨gd, 0, none⟩)] 55) = W2 at *
  obtain ⟨tag1, r1, r2, r3⟩ := fresh HR.out
  generalize W.heap.size = b3 at *
  have hct : ∀ W', Tch Non W2 W' → Calls Ybad.prog 20 #[.pointer (some ⟨grs, 0, none⟩), .int .i32 (y : Int), .func (.func 21) #[] #[.pointer (some ⟨w.heap.size, 0, none⟩), .pointer (some ⟨w.heap.size + 1, 0, none⟩), .pointer (some ⟨b3, 0, none⟩)], .func (.func 22) #[] #[.pointer (some ⟨w.heap.size + 1, 0, none⟩), .pointer (some ⟨w.heap.size + 1 + 1, 0, none⟩)]] W'
      fun e w' => (R A y x → e = .returned (.bool true) ∧ Cell w' ⟨w.heap.size, 0, none⟩ (.pointer (some ⟨grs, 0, none⟩)) ∧ LPost w B grs gd n tag s A y x true w') ∧ (¬ R A y x → ∃ u : Int, e = .returned (.bool false) ∧ Cell w' ⟨w.heap.size, 0, none⟩ (.pointer (some ⟨grs, 0, none⟩)) ∧ Cell w' ⟨w.heap.size + 1, 0, none⟩ (.int .i32 (x : Int)) ∧ Cell w' ⟨grs, 2, none⟩ (.slice (some ⟨go, 0, none⟩) (2 * n) co) ∧ Cell w' ⟨grs, 4, none⟩ (.int .i32 (s.srch + 1)) ∧ Cell w' ⟨go, x, none⟩ (.int .i32 u) ∧ (u == s.srch + 1) = false ∧ Hid (LPost w B grs gd n tag s A y x false w')) := by
    intro W' t
    have t' : TT tag w tag1 W' := r2.trans (TT.keep (T2.out.also t))
    have f1 : Fix W' tag1 ⟨w.heap.size, 0, none⟩ (.pointer (some ⟨grs, 0, none⟩)) := ⟨(d1.keep t).cell 0, r3 _ (Nat.le_refl _)⟩
    have f2 : Fix W' tag1 ⟨w.heap.size + 1, 0, none⟩ (.int .i32 (x : Int)) := ⟨(d2.keep t).cell 0, r3 _ (by show w.heap.size ≤ w.heap.size + 1; omega)⟩
    have f4 : Fix W' tag1 ⟨w.heap.size + 1 + 1, 0, none⟩ (.bool true) := ⟨(d3.keep t).cell 0, r3 _ (by show w.heap.size ≤ w.heap.size + 1 + 1; omega)⟩
    have f3 : Fix W' tag1 ⟨b3, 0, none⟩ (.pointer (some ⟨gd, 0, none⟩)) := ⟨(d4.keep t).cell 0, r3 _ (by show w.heap.size ≤ b3; omega)⟩
    refine (forward_any W' B grs gd gg ga gh gs n m cl gr go cr co _ _ _ _ y x al tag1 s A st hd (r1.keep (T2.out.also t)) (HD.out.tt t') HER.out HEO.out f1 f2 f3 f4 HLE.out hs0 hs1 hy hx).mono ?_
    rintro e w' ⟨b, tag', onw, stk, vs, mk, e1, e2, e3, e4, e5, e6⟩
    have o3 : Own .i32 21 w' B (.slice (some ⟨go, 0, none⟩) (2 * n) co) onw := by have := e2.own 3; unfold Rs.own at this; rw [← HEO.out]; exact this
    obtain ⟨u, hu, c3⟩ := o3.cell (i := x) (by rw [o3.len]; exact hx)
    have hl : ∀ c, (c = true ↔ R A y x) → LPost w B grs gd n tag s A y x c w' := fun c hc => ⟨tag', onw, stk, vs, mk, e2, t'.trans e3, e4, hc⟩
    cases b with
    | true => exact ⟨fun hR => ⟨e1, (f1.tt e3).1, hl _ ⟨fun _ => hR, fun _ => rfl⟩⟩, fun hn => absurd (e5 rfl) hn⟩
    | false =>
      refine ⟨fun hR => absurd hR (e6 rfl).1, fun hn => ⟨u, e1, (f1.tt e3).1, (f2.tt e3).1, (e2.blk.cell 2).trans (by rw [← HEO.out]; rfl), e2.blk.cell 4, c3, ?_, hl _ ⟨(fun h => by cases h), fun h => absurd h hn⟩⟩⟩
      have hne : u ≠ s.srch + 1 := fun hc => (e6 rfl).2 (by rw [← hc]; exact hu)
      simp [hne]
  have k1 : W2.cell? ⟨w.heap.size, 0, none⟩ = some (.pointer (some ⟨grs, 0, none⟩)) := d1.cell 0
  have k2 : W2.cell? ⟨w.heap.size + 1, 0, none⟩ = some (.int .i32 (x : Int)) := d2.cell 0
  have k3 : W2.cell? ⟨grs, 2, none⟩ = some (.slice (some ⟨go, 0, none⟩) (2 * n) co) := ((HR.out.blk.keep T2.out).cell 2).trans (by rw [← HEO.out]; rfl)
  have HCT := hide hct
  have hn := HD.out.hn
  clear hct d1 d2 d3 d4 r1 r2 r3 k0 l1 T1 T2
  by_cases hR : R A y x
  · have HCT2 := hide (fun W' t => (HCT.out W' t).mono (fun e w' h => h.1 hR))
    clear HCT hR
    refine wp_region_held_drew (S := fun w' => w'.cell? ⟨w.heap.size, 0, none⟩ = some (.pointer (some ⟨grs, 0, none⟩))) (by kernel_rfl) k1 (fun hHeld => ?_)
    refine wpAnyH_take (i := 0) (oi := { dst := some 14, op := Op.load 23 (Operand.tmp 4), type := 23, pos := "round.go:243", after := #[], guard := none }) (v := .pointer (some ⟨grs, 0, none⟩)) rfl (by kernel_rfl) (by kernel_rfl) (by kernel_rfl) (fun _ _ _ h => h) (Or.inl ⟨by rfl, fun w0 hSw => by (try dsimp only at hSw); go_simp⟩) (by assumption) ?_
    try simp only [Act.put, List.setIfInBounds_toArray, List.set_cons_zero, List.set_cons_succ]
    refine wpAnyH_take (i := 1) (oi := { dst := some 15, op := Op.move (Operand.tmp 1), type := 21, pos := "round.go:243", after := #[], guard := none }) (v := .int .i32 (y : Int)) rfl (by kernel_rfl) (by kernel_rfl) (by kernel_rfl) (fun _ _ _ h => h) (Or.inl ⟨by rfl, fun w0 hSw => by (try dsimp only at hSw); go_simp⟩) (by assumption) ?_
    try simp only [Act.put, List.setIfInBounds_toArray, List.set_cons_zero, List.set_cons_succ]
    refine wpAnyH_take (i := 2) (oi := { dst := some 16, op := Op.makeFunc (Fn.func 21) #[] #[Operand.tmp 4, Operand.tmp 6, Operand.tmp 9], type := 75, pos := "round.go:243", after := #[], guard := none }) (v := .func (.func 21) #[] #[.pointer (some ⟨w.heap.size, 0, none⟩), .pointer (some ⟨w.heap.size + 1, 0, none⟩), .pointer (some ⟨b3, 0, none⟩)]) rfl (by kernel_rfl) (by kernel_rfl) (by kernel_rfl) (fun _ _ _ h => h) (Or.inl ⟨by rfl, fun w0 hSw => by (try dsimp only at hSw); go_simp⟩) (by assumption) ?_
    try simp only [Act.put, List.setIfInBounds_toArray, List.set_cons_zero, List.set_cons_succ]
    refine wpAnyH_take (i := 3) (oi := { dst := some 17, op := Op.makeFunc (Fn.func 22) #[] #[Operand.tmp 6, Operand.tmp 7], type := 75, pos := "round.go:243", after := #[], guard := none }) (v := .func (.func 22) #[] #[.pointer (some ⟨w.heap.size + 1, 0, none⟩), .pointer (some ⟨w.heap.size + 1 + 1, 0, none⟩)]) rfl (by kernel_rfl) (by kernel_rfl) (by kernel_rfl) (fun _ _ _ h => h) (Or.inl ⟨by rfl, fun w0 hSw => by (try dsimp only at hSw); go_simp⟩) (by assumption) ?_
    try simp only [Act.put, List.setIfInBounds_toArray, List.set_cons_zero, List.set_cons_succ]
    refine wpAnyH_ready (rs := [4]) (by kernel_rfl) (by simp) ?_
    refine AllReadyH.cons (o := { dst := some 18, op := Op.call { callee := Callee.value (Operand.func 20), args := #[Operand.tmp 14, Operand.tmp 15, Operand.tmp 16, Operand.tmp 17], argTypes := #[23, 21, 75, 75] }, type := 4, pos := "round.go:243", after := #[{ on := 0, ground := Ground.data }, { on := 1, ground := Ground.data }, { on := 2, ground := Ground.data }, { on := 3, ground := Ground.data }], guard := none }) rfl (fun K hK => ?_) AllReadyH.nil
    go_simp
    go_at_call 20
    refine (HCT2.out W2.drew ⟨rfl, rfl, rfl, Nat.le_refl _, fun _ _ _ => rfl⟩).mono ?_
    rintro e w' ⟨rfl, g1, hp⟩
    replace hp := hide hp
    refine hK.out _ _ g1 (fun hHeld2 => ?_)
    clear hK K hHeld
    try simp only [Act.put, List.setIfInBounds_toArray, List.set_cons_zero, List.set_cons_succ]
    refine wpAnyH_take (i := 5) (oi := { dst := some 19, op := Op.move (Operand.tmp 18), type := 4, pos := "round.go:243", after := #[{ on := 4, ground := Ground.data }, { on := 4, ground := Ground.chain }], guard := none }) (v := .bool true) rfl (by kernel_rfl) (by kernel_rfl) (by kernel_rfl) (fun _ _ _ h => h) (Or.inl ⟨by rfl, fun w0 hSw => by (try dsimp only at hSw); go_simp⟩) (by assumption) ?_
    try simp only [Act.put, List.setIfInBounds_toArray, List.set_cons_zero, List.set_cons_succ]
    refine wpAnyH_take (i := 6) (oi := { dst := some 20, op := Op.load 23 (Operand.tmp 4), type := 23, pos := "round.go:243", after := #[{ on := 5, ground := Ground.guard }], guard := some (5, false) }) (v := undef) rfl (by kernel_rfl) (by kernel_rfl) (by kernel_rfl) (fun _ _ _ h => h) (Or.inr ⟨by rfl, rfl⟩) (by assumption) ?_
    try simp only [Act.put, List.setIfInBounds_toArray, List.set_cons_zero, List.set_cons_succ]
    refine wpAnyH_take (i := 7) (oi := { dst := some 21, op := Op.nilCheck (Operand.tmp 20), type := 0, pos := "round.go:243", after := #[{ on := 6, ground := Ground.data }, { on := 5, ground := Ground.guard }], guard := some (5, false) }) (v := undef) rfl (by kernel_rfl) (by kernel_rfl) (by kernel_rfl) (fun _ _ _ h => h) (Or.inr ⟨by rfl, rfl⟩) (by assumption) ?_
    try simp only [Act.put, List.setIfInBounds_toArray, List.set_cons_zero, List.set_cons_succ]
    refine wpAnyH_take (i := 8) (oi := { dst := some 22, op := Op.fieldAddr 57 (Operand.tmp 21) 2, type := 0, pos := "round.go:243", after := #[{ on := 7, ground := Ground.data }, { on := 5, ground := Ground.guard }], guard := some (5, false) }) (v := undef) rfl (by kernel_rfl) (by kernel_rfl) (by kernel_rfl) (fun _ _ _ h => h) (Or.inr ⟨by rfl, rfl⟩) (by assumption) ?_
    try simp only [Act.put, List.setIfInBounds_toArray, List.set_cons_zero, List.set_cons_succ]
    refine wpAnyH_take (i := 9) (oi := { dst := some 23, op := Op.load 24 (Operand.tmp 22), type := 24, pos := "round.go:243", after := #[{ on := 8, ground := Ground.data }, { on := 5, ground := Ground.guard }], guard := some (5, false) }) (v := undef) rfl (by kernel_rfl) (by kernel_rfl) (by kernel_rfl) (fun _ _ _ h => h) (Or.inr ⟨by rfl, rfl⟩) (by assumption) ?_
    try simp only [Act.put, List.setIfInBounds_toArray, List.set_cons_zero, List.set_cons_succ]
    refine wpAnyH_take (i := 10) (oi := { dst := some 24, op := Op.load 21 (Operand.tmp 6), type := 21, pos := "round.go:243", after := #[{ on := 5, ground := Ground.guard }], guard := some (5, false) }) (v := undef) rfl (by kernel_rfl) (by kernel_rfl) (by kernel_rfl) (fun _ _ _ h => h) (Or.inr ⟨by rfl, rfl⟩) (by assumption) ?_
    try simp only [Act.put, List.setIfInBounds_toArray, List.set_cons_zero, List.set_cons_succ]
    refine wpAnyH_take (i := 11) (oi := { dst := some 25, op := Op.indexAddr 24 (Operand.tmp 23) (Operand.tmp 24), type := 0, pos := "round.go:243", after := #[{ on := 9, ground := Ground.data }, { on := 10, ground := Ground.data }, { on := 5, ground := Ground.guard }], guard := some (5, false) }) (v := undef) rfl (by kernel_rfl) (by kernel_rfl) (by kernel_rfl) (fun _ _ _ h => h) (Or.inr ⟨by rfl, rfl⟩) (by assumption) ?_
    try simp only [Act.put, List.setIfInBounds_toArray, List.set_cons_zero, List.set_cons_succ]
    refine wpAnyH_take (i := 12) (oi := { dst := some 26, op := Op.load 21 (Operand.tmp 25), type := 21, pos := "round.go:243", after := #[{ on := 11, ground := Ground.data }, { on := 5, ground := Ground.guard }], guard := some (5, false) }) (v := undef) rfl (by kernel_rfl) (by kernel_rfl) (by kernel_rfl) (fun _ _ _ h => h) (Or.inr ⟨by rfl, rfl⟩) (by assumption) ?_
    try simp only [Act.put, List.setIfInBounds_toArray, List.set_cons_zero, List.set_cons_succ]
    refine wpAnyH_take (i := 13) (oi := { dst := some 27, op := Op.load 23 (Operand.tmp 4), type := 23, pos := "round.go:243", after := #[{ on := 5, ground := Ground.guard }], guard := some (5, false) }) (v := undef) rfl (by kernel_rfl) (by kernel_rfl) (by kernel_rfl) (fun _ _ _ h => h) (Or.inr ⟨by rfl, rfl⟩) (by assumption) ?_
    try simp only [Act.put, List.setIfInBounds_toArray, List.set_cons_zero, List.set_cons_succ]
    refine wpAnyH_take (i := 14) (oi := { dst := some 28, op := Op.nilCheck (Operand.tmp 27), type := 0, pos := "round.go:243", after := #[{ on := 13, ground := Ground.data }, { on := 5, ground := Ground.guard }], guard := some (5, false) }) (v := undef) rfl (by kernel_rfl) (by kernel_rfl) (by kernel_rfl) (fun _ _ _ h => h) (Or.inr ⟨by rfl, rfl⟩) (by assumption) ?_
    try simp only [Act.put, List.setIfInBounds_toArray, List.set_cons_zero, List.set_cons_succ]
    refine wpAnyH_take (i := 15) (oi := { dst := some 29, op := Op.fieldAddr 57 (Operand.tmp 28) 4, type := 0, pos := "round.go:243", after := #[{ on := 14, ground := Ground.data }, { on := 5, ground := Ground.guard }], guard := some (5, false) }) (v := undef) rfl (by kernel_rfl) (by kernel_rfl) (by kernel_rfl) (fun _ _ _ h => h) (Or.inr ⟨by rfl, rfl⟩) (by assumption) ?_
    try simp only [Act.put, List.setIfInBounds_toArray, List.set_cons_zero, List.set_cons_succ]
    refine wpAnyH_take (i := 16) (oi := { dst := some 30, op := Op.load 21 (Operand.tmp 29), type := 21, pos := "round.go:243", after := #[{ on := 15, ground := Ground.data }, { on := 5, ground := Ground.guard }], guard := some (5, false) }) (v := undef) rfl (by kernel_rfl) (by kernel_rfl) (by kernel_rfl) (fun _ _ _ h => h) (Or.inr ⟨by rfl, rfl⟩) (by assumption) ?_
    try simp only [Act.put, List.setIfInBounds_toArray, List.set_cons_zero, List.set_cons_succ]
    refine wpAnyH_take (i := 17) (oi := { dst := some 31, op := Op.binOp BinOp.eql 21 (Operand.tmp 26) (Operand.tmp 30) 21, type := 4, pos := "round.go:243", after := #[{ on := 12, ground := Ground.data }, { on := 16, ground := Ground.data }, { on := 5, ground := Ground.guard }], guard := some (5, false) }) (v := undef) rfl (by kernel_rfl) (by kernel_rfl) (by kernel_rfl) (fun _ _ _ h => h) (Or.inr ⟨by rfl, rfl⟩) (by assumption) ?_
    try simp only [Act.put, List.setIfInBounds_toArray, List.set_cons_zero, List.set_cons_succ]
    refine wpAnyH_take (i := 18) (oi := { dst := some 32, op := Op.pick (Operand.tmp 19) (Operand.const (Value.bool true)) (Operand.tmp 31), type := 4, pos := "round.go:243", after := #[{ on := 5, ground := Ground.data }, { on := 17, ground := Ground.data }], guard := none }) (v := .bool true) rfl (by kernel_rfl) (by kernel_rfl) (by kernel_rfl) (fun _ _ _ h => h) (Or.inl ⟨by rfl, fun w0 hSw => by (try dsimp only at hSw); go_simp⟩) (by assumption) ?_
    try simp only [Act.put, List.setIfInBounds_toArray, List.set_cons_zero, List.set_cons_succ]
    refine wpAnyH_take (i := 19) (oi := { dst := some 8, op := Op.assign (Operand.tmp 32), type := 4, pos := "round.go:243", after := #[{ on := 18, ground := Ground.data }, { on := 5, ground := Ground.chain }, { on := 0, ground := Ground.phase }, { on := 1, ground := Ground.phase }, { on := 2, ground := Ground.phase }, { on := 3, ground := Ground.phase }, { on := 4, ground := Ground.phase }, { on := 5, ground := Ground.phase }, { on := 6, ground := Ground.phase }, { on := 7, ground := Ground.phase }, { on := 8, ground := Ground.phase }, { on := 9, ground := Ground.phase }, { on := 10, ground := Ground.phase }, { on := 11, ground := Ground.phase }, { on := 12, ground := Ground.phase }, { on := 13, ground := Ground.phase }, { on := 14, ground := Ground.phase }, { on := 15, ground := Ground.phase }, { on := 16, ground := Ground.phase }, { on := 17, ground := Ground.phase }, { on := 18, ground := Ground.phase }], guard := none }) (v := .bool true) rfl (by kernel_rfl) (by kernel_rfl) (by kernel_rfl) (fun _ _ _ h => h) (Or.inl ⟨by rfl, fun w0 hSw => by (try dsimp only at hSw); go_simp⟩) (by assumption) ?_
    try simp only [Act.put, List.setIfInBounds_toArray, List.set_cons_zero, List.set_cons_succ]
    refine wpAnyH_done (by kernel_rfl) ?_ _
    go_wp2_with fail
    go_ret
    exact LRet.mk true rfl hp.out
  · have HCT2 := hide (fun W' t => (HCT.out W' t).mono (fun e w' h => h.2 hR))
    clear HCT hR
    have hxi : ¬ (2 * (n : Int) ≤ (x : Int)) := by omega
    refine wp_region_held_drew (S := fun w' => w'.cell? ⟨w.heap.size, 0, none⟩ = some (.pointer (some ⟨grs, 0, none⟩)) ∧ w'.cell? ⟨w.heap.size + 1, 0, none⟩ = some (.int .i32 (x : Int)) ∧ w'.cell? ⟨grs, 2, none⟩ = some (.slice (some ⟨go, 0, none⟩) (2 * n) co)) (by kernel_rfl) ⟨k1, k2, k3⟩ (fun hHeld => ?_)
    refine wpAnyH_take (i := 0) (oi := { dst := some 14, op := Op.load 23 (Operand.tmp 4), type := 23, pos := "round.go:243", after := #[], guard := none }) (v := .pointer (some ⟨grs, 0, none⟩)) rfl (by kernel_rfl) (by kernel_rfl) (by kernel_rfl) (fun _ _ _ h => h) (Or.inl ⟨by rfl, fun w0 hSw => by (try dsimp only at hSw); go_simp⟩) (by assumption) ?_
    try simp only [Act.put, List.setIfInBounds_toArray, List.set_cons_zero, List.set_cons_succ]
    refine wpAnyH_take (i := 1) (oi := { dst := some 15, op := Op.move (Operand.tmp 1), type := 21, pos := "round.go:243", after := #[], guard := none }) (v := .int .i32 (y : Int)) rfl (by kernel_rfl) (by kernel_rfl) (by kernel_rfl) (fun _ _ _ h => h) (Or.inl ⟨by rfl, fun w0 hSw => by (try dsimp only at hSw); go_simp⟩) (by assumption) ?_
    try simp only [Act.put, List.setIfInBounds_toArray, List.set_cons_zero, List.set_cons_succ]
    refine wpAnyH_take (i := 2) (oi := { dst := some 16, op := Op.makeFunc (Fn.func 21) #[] #[Operand.tmp 4, Operand.tmp 6, Operand.tmp 9], type := 75, pos := "round.go:243", after := #[], guard := none }) (v := .func (.func 21) #[] #[.pointer (some ⟨w.heap.size, 0, none⟩), .pointer (some ⟨w.heap.size + 1, 0, none⟩), .pointer (some ⟨b3, 0, none⟩)]) rfl (by kernel_rfl) (by kernel_rfl) (by kernel_rfl) (fun _ _ _ h => h) (Or.inl ⟨by rfl, fun w0 hSw => by (try dsimp only at hSw); go_simp⟩) (by assumption) ?_
    try simp only [Act.put, List.setIfInBounds_toArray, List.set_cons_zero, List.set_cons_succ]
    refine wpAnyH_take (i := 3) (oi := { dst := some 17, op := Op.makeFunc (Fn.func 22) #[] #[Operand.tmp 6, Operand.tmp 7], type := 75, pos := "round.go:243", after := #[], guard := none }) (v := .func (.func 22) #[] #[.pointer (some ⟨w.heap.size + 1, 0, none⟩), .pointer (some ⟨w.heap.size + 1 + 1, 0, none⟩)]) rfl (by kernel_rfl) (by kernel_rfl) (by kernel_rfl) (fun _ _ _ h => h) (Or.inl ⟨by rfl, fun w0 hSw => by (try dsimp only at hSw); go_simp⟩) (by assumption) ?_
    try simp only [Act.put, List.setIfInBounds_toArray, List.set_cons_zero, List.set_cons_succ]
    refine wpAnyH_ready (rs := [4]) (by kernel_rfl) (by simp) ?_
    refine AllReadyH.cons (o := { dst := some 18, op := Op.call { callee := Callee.value (Operand.func 20), args := #[Operand.tmp 14, Operand.tmp 15, Operand.tmp 16, Operand.tmp 17], argTypes := #[23, 21, 75, 75] }, type := 4, pos := "round.go:243", after := #[{ on := 0, ground := Ground.data }, { on := 1, ground := Ground.data }, { on := 2, ground := Ground.data }, { on := 3, ground := Ground.data }], guard := none }) rfl (fun K hK => ?_) AllReadyH.nil
    go_simp
    go_at_call 20
    refine (HCT2.out W2.drew ⟨rfl, rfl, rfl, Nat.le_refl _, fun _ _ _ => rfl⟩).mono ?_
    rintro e w' ⟨u, rfl, g1, g2, g3, g4, g5, hu, hp⟩
    refine hK.out _ _ ⟨g1, g2, g3⟩ (fun hHeld2 => ?_)
    clear hK K hHeld
    try simp only [Act.put, List.setIfInBounds_toArray, List.set_cons_zero, List.set_cons_succ]
    refine wpAnyH_take (i := 5) (oi := { dst := some 19, op := Op.move (Operand.tmp 18), type := 4, pos := "round.go:243", after := #[{ on := 4, ground := Ground.data }, { on := 4, ground := Ground.chain }], guard := none }) (v := .bool false) rfl (by kernel_rfl) (by kernel_rfl) (by kernel_rfl) (fun _ _ _ h => h) (Or.inl ⟨by rfl, fun w0 hSw => by (try dsimp only at hSw); go_simp⟩) (by assumption) ?_
    try simp only [Act.put, List.setIfInBounds_toArray, List.set_cons_zero, List.set_cons_succ]
    refine wpAnyH_take (i := 6) (oi := { dst := some 20, op := Op.load 23 (Operand.tmp 4), type := 23, pos := "round.go:243", after := #[{ on := 5, ground := Ground.guard }], guard := some (5, false) }) (v := .pointer (some ⟨grs, 0, none⟩)) rfl (by kernel_rfl) (by kernel_rfl) (by kernel_rfl) (fun _ _ _ h => h) (Or.inl ⟨by rfl, fun w0 hSw => by (try dsimp only at hSw); go_simp⟩) (by assumption) ?_
    try simp only [Act.put, List.setIfInBounds_toArray, List.set_cons_zero, List.set_cons_succ]
    refine wpAnyH_take (i := 7) (oi := { dst := some 21, op := Op.nilCheck (Operand.tmp 20), type := 0, pos := "round.go:243", after := #[{ on := 6, ground := Ground.data }, { on := 5, ground := Ground.guard }], guard := some (5, false) }) (v := .pointer (some ⟨grs, 0, none⟩)) rfl (by kernel_rfl) (by kernel_rfl) (by kernel_rfl) (fun _ _ _ h => h) (Or.inl ⟨by rfl, fun w0 hSw => by (try dsimp only at hSw); go_simp⟩) (by assumption) ?_
    try simp only [Act.put, List.setIfInBounds_toArray, List.set_cons_zero, List.set_cons_succ]
    refine wpAnyH_take (i := 8) (oi := { dst := some 22, op := Op.fieldAddr 57 (Operand.tmp 21) 2, type := 0, pos := "round.go:243", after := #[{ on := 7, ground := Ground.data }, { on := 5, ground := Ground.guard }], guard := some (5, false) }) (v := .pointer (some ⟨grs, 2, none⟩)) rfl (by kernel_rfl) (by kernel_rfl) (by kernel_rfl) (fun _ _ _ h => h) (Or.inl ⟨by rfl, fun w0 hSw => by (try dsimp only at hSw); go_simp⟩) (by assumption) ?_
    try simp only [Act.put, List.setIfInBounds_toArray, List.set_cons_zero, List.set_cons_succ]
    refine wpAnyH_take (i := 9) (oi := { dst := some 23, op := Op.load 24 (Operand.tmp 22), type := 24, pos := "round.go:243", after := #[{ on := 8, ground := Ground.data }, { on := 5, ground := Ground.guard }], guard := some (5, false) }) (v := .slice (some ⟨go, 0, none⟩) (2 * n) co) rfl (by kernel_rfl) (by kernel_rfl) (by kernel_rfl) (fun _ _ _ h => h) (Or.inl ⟨by rfl, fun w0 hSw => by (try dsimp only at hSw); go_simp⟩) (by assumption) ?_
    try simp only [Act.put, List.setIfInBounds_toArray, List.set_cons_zero, List.set_cons_succ]
    refine wpAnyH_take (i := 10) (oi := { dst := some 24, op := Op.load 21 (Operand.tmp 6), type := 21, pos := "round.go:243", after := #[{ on := 5, ground := Ground.guard }], guard := some (5, false) }) (v := .int .i32 (x : Int)) rfl (by kernel_rfl) (by kernel_rfl) (by kernel_rfl) (fun _ _ _ h => h) (Or.inl ⟨by rfl, fun w0 hSw => by (try dsimp only at hSw); go_simp⟩) (by assumption) ?_
    try simp only [Act.put, List.setIfInBounds_toArray, List.set_cons_zero, List.set_cons_succ]
    refine wpAnyH_take (i := 11) (oi := { dst := some 25, op := Op.indexAddr 24 (Operand.tmp 23) (Operand.tmp 24), type := 0, pos := "round.go:243", after := #[{ on := 9, ground := Ground.data }, { on := 10, ground := Ground.data }, { on := 5, ground := Ground.guard }], guard := some (5, false) }) (v := .pointer (some ⟨go, x, none⟩)) rfl (by kernel_rfl) (by kernel_rfl) (by kernel_rfl) (fun _ _ _ h => h) (Or.inl ⟨by rfl, fun w0 hSw => by (try dsimp only at hSw); go_simp⟩) (by assumption) ?_
    try simp only [Act.put, List.setIfInBounds_toArray, List.set_cons_zero, List.set_cons_succ]
    refine wpAnyH_take (i := 13) (oi := { dst := some 27, op := Op.load 23 (Operand.tmp 4), type := 23, pos := "round.go:243", after := #[{ on := 5, ground := Ground.guard }], guard := some (5, false) }) (v := .pointer (some ⟨grs, 0, none⟩)) rfl (by kernel_rfl) (by kernel_rfl) (by kernel_rfl) (fun _ _ _ h => h) (Or.inl ⟨by rfl, fun w0 hSw => by (try dsimp only at hSw); go_simp⟩) (by assumption) ?_
    try simp only [Act.put, List.setIfInBounds_toArray, List.set_cons_zero, List.set_cons_succ]
    refine wpAnyH_take (i := 14) (oi := { dst := some 28, op := Op.nilCheck (Operand.tmp 27), type := 0, pos := "round.go:243", after := #[{ on := 13, ground := Ground.data }, { on := 5, ground := Ground.guard }], guard := some (5, false) }) (v := .pointer (some ⟨grs, 0, none⟩)) rfl (by kernel_rfl) (by kernel_rfl) (by kernel_rfl) (fun _ _ _ h => h) (Or.inl ⟨by rfl, fun w0 hSw => by (try dsimp only at hSw); go_simp⟩) (by assumption) ?_
    try simp only [Act.put, List.setIfInBounds_toArray, List.set_cons_zero, List.set_cons_succ]
    refine wpAnyH_take (i := 15) (oi := { dst := some 29, op := Op.fieldAddr 57 (Operand.tmp 28) 4, type := 0, pos := "round.go:243", after := #[{ on := 14, ground := Ground.data }, { on := 5, ground := Ground.guard }], guard := some (5, false) }) (v := .pointer (some ⟨grs, 4, none⟩)) rfl (by kernel_rfl) (by kernel_rfl) (by kernel_rfl) (fun _ _ _ h => h) (Or.inl ⟨by rfl, fun w0 hSw => by (try dsimp only at hSw); go_simp⟩) (by assumption) ?_
    try simp only [Act.put, List.setIfInBounds_toArray, List.set_cons_zero, List.set_cons_succ]
    refine wpAnyH_ready (rs := [12, 16]) (by kernel_rfl) (by simp) ?_
    refine AllReadyH.cons (o := { dst := some 26, op := Op.load 21 (Operand.tmp 25), type := 21, pos := "round.go:243", after := #[{ on := 11, ground := Ground.data }, { on := 5, ground := Ground.guard }], guard := some (5, false) }) rfl (fun K hK => ?_) ?_
    · go_simp
      refine hK.out _ _ hHeld2 (fun _ => ?_)
      clear hK K
      try simp only [Act.put, List.setIfInBounds_toArray, List.set_cons_zero, List.set_cons_succ]
      refine wpAnyH_ready (rs := [16]) (by kernel_rfl) (by simp) ?_
      refine AllReadyH.cons (o := { dst := some 30, op := Op.load 21 (Operand.tmp 29), type := 21, pos := "round.go:243", after := #[{ on := 15, ground := Ground.data }, { on := 5, ground := Ground.guard }], guard := some (5, false) }) rfl (fun K hK => ?_) AllReadyH.nil
      go_simp
      refine hK.out _ _ hHeld2 (fun _ => ?_)
      clear hK K
      try simp only [Act.put, List.setIfInBounds_toArray, List.set_cons_zero, List.set_cons_succ]
      refine wpAnyH_take (i := 17) (oi := { dst := some 31, op := Op.binOp BinOp.eql 21 (Operand.tmp 26) (Operand.tmp 30) 21, type := 4, pos := "round.go:243", after := #[{ on := 12, ground := Ground.data }, { on := 16, ground := Ground.data }, { on := 5, ground := Ground.guard }], guard := some (5, false) }) (v := .bool false) rfl (by kernel_rfl) (by kernel_rfl) (by kernel_rfl) (fun _ _ _ h => h) (Or.inl ⟨by rfl, fun w0 hSw => by (try dsimp only at hSw); go_simp⟩) (by assumption) ?_
      try simp only [Act.put, List.setIfInBounds_toArray, List.set_cons_zero, List.set_cons_succ]
      refine wpAnyH_take (i := 18) (oi := { dst := some 32, op := Op.pick (Operand.tmp 19) (Operand.const (Value.bool true)) (Operand.tmp 31), type := 4, pos := "round.go:243", after := #[{ on := 5, ground := Ground.data }, { on := 17, ground := Ground.data }], guard := none }) (v := .bool false) rfl (by kernel_rfl) (by kernel_rfl) (by kernel_rfl) (fun _ _ _ h => h) (Or.inl ⟨by rfl, fun w0 hSw => by (try dsimp only at hSw); go_simp⟩) (by assumption) ?_
      try simp only [Act.put, List.setIfInBounds_toArray, List.set_cons_zero, List.set_cons_succ]
      refine wpAnyH_take (i := 19) (oi := { dst := some 8, op := Op.assign (Operand.tmp 32), type := 4, pos := "round.go:243", after := #[{ on := 18, ground := Ground.data }, { on := 5, ground := Ground.chain }, { on := 0, ground := Ground.phase }, { on := 1, ground := Ground.phase }, { on := 2, ground := Ground.phase }, { on := 3, ground := Ground.phase }, { on := 4, ground := Ground.phase }, { on := 5, ground := Ground.phase }, { on := 6, ground := Ground.phase }, { on := 7, ground := Ground.phase }, { on := 8, ground := Ground.phase }, { on := 9, ground := Ground.phase }, { on := 10, ground := Ground.phase }, { on := 11, ground := Ground.phase }, { on := 12, ground := Ground.phase }, { on := 13, ground := Ground.phase }, { on := 14, ground := Ground.phase }, { on := 15, ground := Ground.phase }, { on := 16, ground := Ground.phase }, { on := 17, ground := Ground.phase }, { on := 18, ground := Ground.phase }], guard := none }) (v := .bool false) rfl (by kernel_rfl) (by kernel_rfl) (by kernel_rfl) (fun _ _ _ h => h) (Or.inl ⟨by rfl, fun w0 hSw => by (try dsimp only at hSw); go_simp⟩) (by assumption) ?_
      try simp only [Act.put, List.setIfInBounds_toArray, List.set_cons_zero, List.set_cons_succ]
      refine wpAnyH_done (by kernel_rfl) ?_ _
      go_wp2_with fail
      go_ret
      exact LRet.mk false rfl hp.out
    · refine AllReadyH.cons (o := { dst := some 30, op := Op.load 21 (Operand.tmp 29), type := 21, pos := "round.go:243", after := #[{ on := 15, ground := Ground.data }, { on := 5, ground := Ground.guard }], guard := some (5, false) }) rfl (fun K hK => ?_) AllReadyH.nil
      go_simp
      refine hK.out _ _ hHeld2 (fun _ => ?_)
      clear hK K
      try simp only [Act.put, List.setIfInBounds_toArray, List.set_cons_zero, List.set_cons_succ]
      refine wpAnyH_ready (rs := [12]) (by kernel_rfl) (by simp) ?_
      refine AllReadyH.cons (o := { dst := some 26, op := Op.load 21 (Operand.tmp 25), type := 21, pos := "round.go:243", after := #[{ on := 11, ground := Ground.data }, { on := 5, ground := Ground.guard }], guard := some (5, false) }) rfl (fun K hK => ?_) AllReadyH.nil
      go_simp
      refine hK.out _ _ hHeld2 (fun _ => ?_)
      clear hK K
      try simp only [Act.put, List.setIfInBounds_toArray, List.set_cons_zero, List.set_cons_succ]
      refine wpAnyH_take (i := 17) (oi := { dst := some 31, op := Op.binOp BinOp.eql 21 (Operand.tmp 26) (Operand.tmp 30) 21, type := 4, pos := "round.go:243", after := #[{ on := 12, ground := Ground.data }, { on := 16, ground := Ground.data }, { on := 5, ground := Ground.guard }], guard := some (5, false) }) (v := .bool false) rfl (by kernel_rfl) (by kernel_rfl) (by kernel_rfl) (fun _ _ _ h => h) (Or.inl ⟨by rfl, fun w0 hSw => by (try dsimp only at hSw); go_simp⟩) (by assumption) ?_
      try simp only [Act.put, List.setIfInBounds_toArray, List.set_cons_zero, List.set_cons_succ]
      refine wpAnyH_take (i := 18) (oi := { dst := some 32, op := Op.pick (Operand.tmp 19) (Operand.const (Value.bool true)) (Operand.tmp 31), type := 4, pos := "round.go:243", after := #[{ on := 5, ground := Ground.data }, { on := 17, ground := Ground.data }], guard := none }) (v := .bool false) rfl (by kernel_rfl) (by kernel_rfl) (by kernel_rfl) (fun _ _ _ h => h) (Or.inl ⟨by rfl, fun w0 hSw => by (try dsimp only at hSw); go_simp⟩) (by assumption) ?_
      try simp only [Act.put, List.setIfInBounds_toArray, List.set_cons_zero, List.set_cons_succ]
      refine wpAnyH_take (i := 19) (oi := { dst := some 8, op := Op.assign (Operand.tmp 32), type := 4, pos := "round.go:243", after := #[{ on := 18, ground := Ground.data }, { on := 5, ground := Ground.chain }, { on := 0, ground := Ground.phase }, { on := 1, ground := Ground.phase }, { on := 2, ground := Ground.phase }, { on := 3, ground := Ground.phase }, { on := 4, ground := Ground.phase }, { on := 5, ground := Ground.phase }, { on := 6, ground := Ground.phase }, { on := 7, ground := Ground.phase }, { on := 8, ground := Ground.phase }, { on := 9, ground := Ground.phase }, { on := 10, ground := Ground.phase }, { on := 11, ground := Ground.phase }, { on := 12, ground := Ground.phase }, { on := 13, ground := Ground.phase }, { on := 14, ground := Ground.phase }, { on := 15, ground := Ground.phase }, { on := 16, ground := Ground.phase }, { on := 17, ground := Ground.phase }, { on := 18, ground := Ground.phase }], guard := none }) (v := .bool false) rfl (by kernel_rfl) (by kernel_rfl) (by kernel_rfl) (fun _ _ _ h => h) (Or.inl ⟨by rfl, fun w0 hSw => by (try dsimp only at hSw); go_simp⟩) (by assumption) ?_
      try simp only [Act.put, List.setIfInBounds_toArray, List.set_cons_zero, List.set_cons_succ]
      refine wpAnyH_done (by kernel_rfl) ?_ _
      go_wp2_with fail
      go_ret
      exact LRet.mk false rfl hp.out
end Go.Proofs.YbulkaxcDoor.Leads
