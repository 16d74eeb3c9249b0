/-
  What the law's segments share.
-/
import Derived.Test.YbulkaxcHc
import Derived.Test.YbulkaxcMx
namespace Go.Proofs.Ybulkaxc.Law
open Go Go.RowKit Go.Proofs.Ybulkaxc.M2 Go.Proofs.Ybulkaxc.Cm Go.Proofs.Ybulkaxc.Kn Go.Proofs.Ybulkaxc.Hb Go.Proofs.Ybulkaxc.Pl2 Go.Proofs.Ybulkaxc.Tj Go.Proofs.Ybulkaxc.Hc Go.Proofs.Ybulkaxc.Mx
set_option linter.unusedVariables false
set_option linter.unusedSimpArgs false

abbrev LPost (w0 : World) : Exit → Act → World → Prop := bodyPost Yba.prog Yba.f4 (fun e w' => e = .returned (.bool true) ∧ Below w0.heap.size w0 w')
theorem info44 : (Yba.prog.info? 44).map (fun i => (i.zero, i.size, i.bytes)) = some (some (.slice none 0 0), 1, 24) := by kernel_rfl
/-- A slice of slices of numbers. -/
structure Hw (w : World) (av : Option Addr) (nv : Nat) (hs : List (List Nat)) : Prop where
  len : hs.length = nv
  at_ : ∀ h l, hs[h]? = some l → ∃ g a c, av = some ⟨g, 0, none⟩ ∧ w.cell? ⟨g, h, none⟩ = some (.slice a l.length c) ∧ Src .i32 w (.slice a l.length c) (castN l)
theorem Hw.keep {w w' : World} {av : Option Addr} {nv : Nat} {hs : List (List Nat)} (h : Hw w av nv hs) (t : Tch Non w w') : Hw w' av nv hs :=
  ⟨h.len, fun i l hi => by
    obtain ⟨g, a, c, h1, h2, h3⟩ := h.at_ i l hi
    exact ⟨g, a, c, h1, t.cell h2 (fun h => h), Kn.Src.keep h3 t⟩⟩
theorem pair_take {A0 : List (Nat × Nat)} {i f t : Nat} (h : A0[i]? = some (f, t)) (a b : Nat) : (a, b) ∈ A0.take (i + 1) ↔ (a, b) ∈ A0.take i ∨ (a = f ∧ b = t) := by
  rw [List.take_add_one, h]
  simp
theorem harcs_take {hs : List (List Nat)} {h nn : Nat} {l : List Nat} (hl : hs[h]? = some l) : harcs nn (hs.take (h + 1)) = harcs nn (hs.take h) ++ Hb.one (nn + h) l := by
  have hlt := (List.getElem?_eq_some_iff.1 hl).1
  rw [List.take_add_one, hl, harcs_append]
  have : (hs.take h).length = h := by rw [List.length_take]; omega
  rw [this]
  congr 1
  exact harcs_one _ _
/-- The answer so far: the first v nodes. -/
def WantTo (E : Nat → Nat → Prop) (pt : List Bool) (u v : Nat) : Prop := ∃ x, x < v ∧ ptAt pt x = true ∧ Plus E x x ∧ (x = u ∨ (Plus E u x ∧ Plus E x u))
theorem EE_lt {A0 : List (Nat × Nat)} {hs : List (List Nat)} {nn : Nat} (hA : ∀ a b, (a, b) ∈ A0 → a < nn ∧ b < nn) (hhs : ∀ l ∈ hs, ∀ x ∈ l, x < nn) : ∀ a b, EE A0 (harcs nn hs) a b → a < nn + hs.length ∧ b < nn + hs.length := by
  rintro a b (h | h)
  · obtain ⟨h0, l, e, h2⟩ := harcs_mem.1 h
    have hlt := (List.getElem?_eq_some_iff.1 e).1
    have hm := hhs l (List.mem_of_getElem? e)
    rcases h2 with ⟨h4, rfl⟩ | ⟨rfl, h4⟩
    · have := hm a h4
      omega
    · have := hm b h4
      omega
  · have := hA a b h
    omega
end Go.Proofs.Ybulkaxc.Law
