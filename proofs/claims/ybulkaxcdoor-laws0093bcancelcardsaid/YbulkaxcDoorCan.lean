/-
  graph.cancelled, by contract: with no flag, and with the stand-in.
-/
import Derived.Test.YbulkaxcDoorDg
namespace Go.Proofs.YbulkaxcDoor.Can
open Go Go.RowKit Go.Proofs.YbulkaxcDoor.Mem Go.Proofs.YbulkaxcDoor.Pl Go.Proofs.YbulkaxcDoor.RS Go.Proofs.YbulkaxcDoor.Dg
set_option linter.unusedVariables false

theorem equalIn_nili (w : World) (d : Nat) : (Op.equalIn (d + 1) 48 .nilIface .nilIface).run Ybad.prog w = .ok true w := by
  simp [Op.equalIn, run_underlying Ybad.underlying48]
theorem neq_nili (w : World) : (binOp .neq 48 .nilIface .nilIface).run Ybad.prog w = .ok (.bool false) w := by
  simp only [binOp]
  simp [Op.equal, Op.maxDepth, equalIn_nili w 9999]
theorem equalIn_iface (w : World) (d : Nat) (t : TypeId) (v : Value) : (Op.equalIn (d + 1) 48 (.iface t v) .nilIface).run Ybad.prog w = .ok false w := by
  simp [Op.equalIn, run_underlying Ybad.underlying48]
theorem neq_iface (w : World) (t : TypeId) (v : Value) : (binOp .neq 48 (.iface t v) .nilIface).run Ybad.prog w = .ok (.bool true) w := by
  simp only [binOp]
  simp [Op.equal, Op.maxDepth, equalIn_iface w 9999 t v]

set_option maxHeartbeats 400000 in
theorem none_any (w : World) (gg : Nat) (h : w.cell? ⟨gg, 22, none⟩ = some .nilIface) :
    Calls Ybad.prog 15 #[.pointer (some ⟨gg, 0, none⟩)] w fun e w' => e = .returned (.bool false) ∧ w' = w := by
  have q := neq_nili
  go_enter Ybad.func15, Ybad.ntmps15
  go_wp2
  go_ret
  exact ⟨rfl, rfl⟩

set_option maxHeartbeats 400000 in
theorem load_any (w : World) (g : Nat) (k c : Int) (h0 : w.cell? ⟨g, 0, none⟩ = some (.int .i64 k)) (h1 : w.cell? ⟨g, 1, none⟩ = some (.int .i64 c)) (hz : w.frozen? ⟨g, 1, none⟩ = false) (hc0 : 0 ≤ c) (hc1 : c ≤ 1000) :
    Calls Ybad.prog 43 #[.pointer (some ⟨g, 0, none⟩)] w fun e w' => e = .returned (.bool (decide (k < c + 1))) ∧ ∃ q, w' = (w.setCell ⟨g, 1, none⟩ (.int .i64 (c + 1))).drewN q := by
  go_enter Ybad.func43, Ybad.ntmps43
  go_upto_region 2 with fail
  go_quiet (fail)
  go_wp2
  go_ret
  exact ⟨rfl, _, rfl⟩

theorem method_load (a : Addr) (w : World) : (method 220 30 (.pointer (some a)) "Load").run Ybad.prog w = .ok (43, .pointer (some a)) w := by kernel_rfl

set_option maxRecDepth 10000 in
set_option maxHeartbeats 1000000 in
theorem some_any (w : World) (gg g : Nat) (k c : Int) (h : w.cell? ⟨gg, 22, none⟩ = some (.iface 30 (.pointer (some ⟨g, 0, none⟩)))) (h0 : w.cell? ⟨g, 0, none⟩ = some (.int .i64 k)) (h1 : w.cell? ⟨g, 1, none⟩ = some (.int .i64 c)) (hz : w.frozen? ⟨g, 1, none⟩ = false) (hc0 : 0 ≤ c) (hc1 : c ≤ 1000) :
    Calls Ybad.prog 15 #[.pointer (some ⟨gg, 0, none⟩)] w fun e w' => e = .returned (.bool (decide (k < c + 1))) ∧ ∃ q, w' = (w.setCell ⟨g, 1, none⟩ (.int .i64 (c + 1))).drewN q := by
  have q := neq_iface
  have qm := method_load
  have HL := hide (load_any w g k c h0 h1 hz hc0 hc1)
  go_enter Ybad.func15, Ybad.ntmps15
  go_wp2_with (first | (go_at_call 43; refine HL.out.mono ?_; rintro e w' ⟨rfl, q, rfl⟩) | fail)
  go_ret
  exact ⟨rfl, _, rfl⟩
end Go.Proofs.YbulkaxcDoor.Can
