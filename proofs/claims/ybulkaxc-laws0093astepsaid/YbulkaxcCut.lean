/-
  The law's body from one of its statements on; small facts for the segments of the walk.
-/
import Derived.Test.YbulkaxcStep2
namespace Go.Proofs.Ybulkaxc.Seg
open Go Go.RowKit Go.Proofs.Ybulkaxc.Mem Go.Proofs.Ybulkaxc.Step
set_option linter.unusedVariables false

def firstRegion : Code → Option Nat
  | .region id _ _ => some id
  | .seq a _ => firstRegion a
  | _ => none
/-- The code from region k on. -/
def tailAt (k : Nat) : Code → Option Code
  | .seq a b => if firstRegion a = some k then some (.seq a b) else match tailAt k b with
    | some c => some c
    | none => tailAt k a
  | .block _ c => tailAt k c
  | .scope c => tailAt k c
  | .region id o d => if id = k then some (.region id o d) else none
  | _ => none

/-- What the whole walk promises. -/
abbrev Post (w0 : World) : Exit → Act → World → Prop := bodyPost Yba.prog Yba.f3 (fun e w' => e = .returned (.bool true) ∧ Below w0.heap.size w0 w')

theorem SW.keep {w w' : World} {B gs gd gl : Nat} {vi vt vp vl : Value} {ind tk pts lg : List Int} (h : SW w B gs gd gl vi vt vp vl ind tk pts lg) (t : Tch [] w w') : SW w' B gs gd gl vi vt vp vl ind tk pts lg :=
  ⟨h.s0.touch t (by simp), h.l0.touch t (by simp), h.oi.touch t (by simp), h.ot.touch t (by simp), h.op.touch t (by simp), h.ol.touch t (by simp), Nat.le_trans h.hB t.size, h.gg, h.fi, h.ft, h.fp, h.fl, h.it, h.ip, h.il, h.tp, h.tl, h.pl⟩
theorem Own.keep {w w' : World} {B : Nat} {v : Value} {l : List Int} (h : Own w B v l) (t : Tch [] w w') : Own w' B v l := h.touch t (by simp)
theorem Src.keep {w w' : World} {v : Value} {l : List Int} (h : Src w v l) (t : Tch [] w w') : Src w' v l := h.touch t (by simp)
theorem Tch.below0 {w0 w w' : World} (hb : Below w0.heap.size w0 w) (t : Tch [] w w') : Below w0.heap.size w0 w' :=
  hb.trans (t.below hb.size (by simp))
def fst : Code → Code
  | .seq a _ => a
  | c => c
def snd : Code → Code
  | .seq _ b => b
  | _ => .skip
end Go.Proofs.Ybulkaxc.Seg
