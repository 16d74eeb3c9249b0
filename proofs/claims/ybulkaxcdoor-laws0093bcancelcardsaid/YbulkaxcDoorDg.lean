/-
  The digraph in memory; the two tests that 'leads' hands to 'forward', and that of 'reaching'.
-/
import Derived.Test.YbulkaxcDoorRS
namespace Go.Proofs.YbulkaxcDoor.Dg
open Go Go.RowKit Go.Proofs.YbulkaxcDoor.Mem Go.Proofs.YbulkaxcDoor.Pl Go.Proofs.YbulkaxcDoor.RS
set_option linter.unusedVariables false

theorem TT.cell {tag tag' : Nat → Nat} {w w' : World} (h : TT tag w tag' w') {p : Addr} {v : Value} (hc : w.cell? p = some v) (ht : tag p.block = 0) : w'.cell? p = some v ∧ tag' p.block = 0 :=
  ⟨h.tch.cell hc (fun h => h ht), by rw [h.old _ (World.block_lt_of_cell? _ _ hc)]; exact ht⟩

/-- A cell that no search touches. -/
def Fix (w : World) (tag : Nat → Nat) (p : Addr) (v : Value) : Prop := w.cell? p = some v ∧ tag p.block = 0
theorem Fix.tt {tag tag' : Nat → Nat} {w w' : World} {p : Addr} {v : Value} (h : Fix w tag p v) (t : TT tag w tag' w') : Fix w' tag' p v := TT.cell t h.1 h.2

structure DG (w : World) (tag : Nat → Nat) (gd gg ga gh gs n m : Nat) (al : Option Addr) (cl : Nat) (A : List (Nat × Nat)) (st hd : List Int) : Prop where
  c0 : Fix w tag ⟨gd, 0, none⟩ (.pointer (some ⟨gg, 0, none⟩))
  c1 : Fix w tag ⟨gd, 1, none⟩ (.int .i32 (n : Int))
  c2 : Fix w tag ⟨gd, 2, none⟩ (.slice al 2 cl)
  c3 : Fix w tag ⟨gd, 3, none⟩ (.int .i32 1)
  c4 : Fix w tag ⟨gd, 4, none⟩ (.slice (some ⟨ga, 0, none⟩) m m)
  c5 : Fix w tag ⟨gd, 5, none⟩ (.slice (some ⟨gh, 0, none⟩) m m)
  c6 : Fix w tag ⟨gd, 6, none⟩ (.slice (some ⟨gs, 0, none⟩) (2 * n + 1) (2 * n + 1))
  vs : ∀ (i : Nat) (x : Int), st[i]? = some x → Fix w tag ⟨gs, i, none⟩ (.int .i32 x)
  vh : ∀ (i : Nat) (x : Int), hd[i]? = some x → Fix w tag ⟨gh, i, none⟩ (.int .i32 x)
  csr : CSR A (2 * n) st hd
  lenA : A.length = m
  hA : ∀ a b, (a, b) ∈ A → a < 2 * n ∧ b < 2 * n
  hn : n ≤ 8
  hn1 : 1 ≤ n
  hm : m ≤ 2000
theorem DG.tt {w w' : World} {tag tag' : Nat → Nat} {gd gg ga gh gs n m : Nat} {al : Option Addr} {cl : Nat} {A : List (Nat × Nat)} {st hd : List Int} (h : DG w tag gd gg ga gh gs n m al cl A st hd) (t : TT tag w tag' w') : DG w' tag' gd gg ga gh gs n m al cl A st hd :=
  ⟨h.c0.tt t, h.c1.tt t, h.c2.tt t, h.c3.tt t, h.c4.tt t, h.c5.tt t, h.c6.tt t, fun i x hx => (h.vs i x hx).tt t, fun i x hx => (h.vh i x hx).tt t, h.csr, h.lenA, h.hA, h.hn, h.hn1, h.hm⟩

/-- New blocks belong to nobody. -/
theorem fresh {w : World} {B grs gd P : Nat} {tag : Nat → Nat} {s : Rs} (h : RS w B grs gd P tag s) : ∃ tag', RS w B grs gd P tag' s ∧ TT tag w tag' w ∧ ∀ x, w.heap.size ≤ x → tag' x = 0 := by
  refine ⟨fun x => if x < w.heap.size then tag x else 0, ⟨h.blk, h.own, h.hB, ?_, fun i g hg => ?_⟩, ⟨Tch.refl _ _, fun x hx => if_pos hx⟩, fun x hx => if_neg (by omega)⟩
  · simp only [if_pos h.blk.lt]; exact h.tg
  · simp only [if_pos (Rs.own_lt i (h.own i) hg).2]; exact h.tv i g hg

section
variable {w : World} {B grs gd P : Nat} {tag : Nat → Nat} {s : Rs}
theorem rk {g n c : Nat} (h : RS w B grs gd P tag s) (e : s.vr = .slice (some ⟨g, 0, none⟩) n c) {i : Nat} (hi : i < P) : w.cell? ⟨g, i, none⟩ = some (.int .i32 0) := by
  have := h.own 2
  unfold Rs.own at this
  rw [e] at this
  exact this.at (by rw [List.getElem?_replicate, if_pos hi])
theorem c1 (h : RS w B grs gd P tag s) : w.cell? ⟨grs, 1, none⟩ = some s.vr := h.blk.cell 1
end

theorem isPoint_no (w : World) (gd n cl t : Nat) (al : Option Addr) (d1 : w.cell? ⟨gd, 1, none⟩ = some (.int .i32 (n : Int))) (d2 : w.cell? ⟨gd, 2, none⟩ = some (.slice al 2 cl)) (hn : n ≤ 8) (ht : t < 2 * n) (k : Nat) :
    Calls Ybad.prog 18 #[.pointer (some ⟨gd, 0, none⟩), .int .i32 (t : Int)] (w.drewN k) fun e w' => e = .returned (.bool false) ∧ ∃ q, w' = (w.drewN k).drewN q := by
  refine (Small.isPoint_any gd (t : Int) (n : Int) al 2 cl (w.drewN k) d1 d2 (by omega) (by omega) (by omega)).mono fun e w' ⟨h1, h2⟩ => ⟨?_, h2⟩
  rw [h1]
  have : decide ((n : Int) * ((2 : Nat) : Int) ≤ (t : Int)) = false := by simp; omega
  rw [this]
theorem layer_is (w : World) (gd n cl t r : Nat) (al : Option Addr) (d2 : w.cell? ⟨gd, 2, none⟩ = some (.slice al 2 cl)) (hn : n ≤ 8) (ht : t < 2 * n) (hr : t % 2 = r) (k : Nat) :
    Calls Ybad.prog 19 #[.pointer (some ⟨gd, 0, none⟩), .int .i32 (t : Int)] (w.drewN k) fun e w' => e = .returned (.int .i32 (r : Int)) ∧ w' = w.drewN k := by
  refine (Small.layer_any gd (t : Int) al 2 cl (w.drewN k) d2 (by omega) (by omega) (by omega) (by omega)).mono fun e w' ⟨h1, h2⟩ => ⟨?_, h2⟩
  rw [h1, show (t : Int) % ((2 : Nat) : Int) = (r : Int) by omega]

set_option maxRecDepth 10000 in
set_option maxHeartbeats 1000000 in
/-- The test of 'leads': an even place. -/
theorem pass_any (w : World) (B grs gd gg ga gh gs n m cl gr b1 b2 b3 t x c : Nat) (al : Option Addr) (tag : Nat → Nat) (s : Rs) (A : List (Nat × Nat)) (st hd : List Int) (h : RS w B grs gd (2 * n) tag s) (d : DG w tag gd gg ga gh gs n m al cl A st hd)
    (er : s.vr = .slice (some ⟨gr, 0, none⟩) (2 * n) c)
    (h1 : w.cell? ⟨b1, 0, none⟩ = some (.pointer (some ⟨grs, 0, none⟩))) (h2 : w.cell? ⟨b2, 0, none⟩ = some (.int .i32 (x : Int))) (h3 : w.cell? ⟨b3, 0, none⟩ = some (.pointer (some ⟨gd, 0, none⟩))) (ht : t < 2 * n) (hx : x < 2 * n) :
    Calls Ybad.prog 21 #[.int .i32 (t : Int), .pointer (some ⟨b1, 0, none⟩), .pointer (some ⟨b2, 0, none⟩), .pointer (some ⟨b3, 0, none⟩)] w fun e w' => e = .returned (.bool (decide (t % 2 = 0))) ∧ ∃ q, w' = w.drewN q := by
  have r1 := rk h er ht
  have r2 := rk h er hx
  have k1 := c1 h
  rw [er] at k1
  have d1 := d.c1.1
  have d2 := d.c2.1
  have d3 := d.c3.1
  have hn := d.hn
  have hn1 := d.hn1
  clear h d er
  by_cases hev : t % 2 = 0
  · have e : decide (t % 2 = 0) = true := by simp [hev]
    rw [e]
    have p1 := hide (isPoint_no w gd n cl t al d1 d2 hn ht)
    have p2 := hide (layer_is w gd n cl t 0 al d2 hn ht hev)
    go_enter Ybad.func21, Ybad.ntmps21
    go_wp2
    go_quiet (first | (go_at_call 18; exact Calls.quiet_of (p1.out _)) | (go_at_call 19; exact Calls.quiet_of_same (p2.out _)))
    go_wp2
    go_ret
    exact ⟨rfl, _, rfl⟩
  · have e : decide (t % 2 = 0) = false := by simp [hev]
    rw [e]
    have p1 := hide (isPoint_no w gd n cl t al d1 d2 hn ht)
    have p2 := hide (layer_is w gd n cl t 1 al d2 hn ht (by omega))
    go_enter Ybad.func21, Ybad.ntmps21
    go_wp2
    go_quiet (first | (go_at_call 18; exact Calls.quiet_of (p1.out _)) | (go_at_call 19; exact Calls.quiet_of_same (p2.out _)))
    go_wp2
    go_ret
    exact ⟨rfl, _, rfl⟩

set_option maxRecDepth 10000 in
set_option maxHeartbeats 1000000 in
/-- The test of 'reaching': the same. -/
theorem rpass_any (w : World) (B grs gd gg ga gh gs n m cl gr b1 b2 b3 t c : Nat) (al : Option Addr) (tag : Nat → Nat) (s : Rs) (A : List (Nat × Nat)) (st hd : List Int) (h : RS w B grs gd (2 * n) tag s) (d : DG w tag gd gg ga gh gs n m al cl A st hd)
    (er : s.vr = .slice (some ⟨gr, 0, none⟩) (2 * n) c)
    (h1 : w.cell? ⟨b1, 0, none⟩ = some (.pointer (some ⟨grs, 0, none⟩))) (h2 : w.cell? ⟨b2, 0, none⟩ = some (.int .i32 0)) (h3 : w.cell? ⟨b3, 0, none⟩ = some (.pointer (some ⟨gd, 0, none⟩))) (ht : t < 2 * n) :
    Calls Ybad.prog 24 #[.int .i32 (t : Int), .pointer (some ⟨b1, 0, none⟩), .pointer (some ⟨b2, 0, none⟩), .pointer (some ⟨b3, 0, none⟩)] w fun e w' => e = .returned (.bool (decide (t % 2 = 0))) ∧ ∃ q, w' = w.drewN q := by
  have r1 := rk h er ht
  have k1 := c1 h
  rw [er] at k1
  have d1 := d.c1.1
  have d2 := d.c2.1
  have d3 := d.c3.1
  have hn := d.hn
  have hn1 := d.hn1
  clear h d er
  by_cases hev : t % 2 = 0
  · have e : decide (t % 2 = 0) = true := by simp [hev]
    rw [e]
    have p1 := hide (isPoint_no w gd n cl t al d1 d2 hn ht)
    have p2 := hide (layer_is w gd n cl t 0 al d2 hn ht hev)
    go_enter Ybad.func24, Ybad.ntmps24
    go_wp2
    go_quiet (first | (go_at_call 18; exact Calls.quiet_of (p1.out _)) | (go_at_call 19; exact Calls.quiet_of_same (p2.out _)))
    go_wp2
    go_ret
    exact ⟨rfl, _, rfl⟩
  · have e : decide (t % 2 = 0) = false := by simp [hev]
    rw [e]
    have p1 := hide (isPoint_no w gd n cl t al d1 d2 hn ht)
    have p2 := hide (layer_is w gd n cl t 1 al d2 hn ht (by omega))
    go_enter Ybad.func24, Ybad.ntmps24
    go_wp2
    go_quiet (first | (go_at_call 18; exact Calls.quiet_of (p1.out _)) | (go_at_call 19; exact Calls.quiet_of_same (p2.out _)))
    go_wp2
    go_ret
    exact ⟨rfl, _, rfl⟩

set_option maxHeartbeats 400000 in
theorem stop_any (w : World) (b1 b2 p x : Nat) (h1 : w.cell? ⟨b1, 0, none⟩ = some (.int .i32 (x : Int))) (h2 : w.cell? ⟨b2, 0, none⟩ = some (.bool true)) :
    Calls Ybad.prog 22 #[.int .i32 (p : Int), .pointer (some ⟨b1, 0, none⟩), .pointer (some ⟨b2, 0, none⟩)] w fun e w' => e = .returned (.bool (decide (p = x))) ∧ w' = w := by
  by_cases hp : p = x
  · have e : decide (p = x) = true := by simp [hp]
    rw [e]
    subst hp
    go_enter Ybad.func22, Ybad.ntmps22
    go_wp2
    go_ret
    exact ⟨rfl, rfl⟩
  · have e : decide (p = x) = false := by simp [hp]
    rw [e]
    have hb : ((p : Int) == (x : Int)) = false := by simp; omega
    go_enter Ybad.func22, Ybad.ntmps22
    go_wp2
    go_ret
    exact ⟨rfl, rfl⟩
end Go.Proofs.YbulkaxcDoor.Dg
