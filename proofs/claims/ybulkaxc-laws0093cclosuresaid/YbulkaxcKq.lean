/-
  For the loop over the keys: appends onto rows; what the loop holds.
-/
import Derived.Test.YbulkaxcKr
import Derived.Test.YbulkaxcLb
namespace Go.Proofs.Ybulkaxc.Law
open Go Go.RowKit Go.Proofs.Ybulkaxc.M2 Go.Proofs.Ybulkaxc.Cm Go.Proofs.Ybulkaxc.Kn Go.Proofs.Ybulkaxc.Hb
set_option linter.unusedVariables false
set_option linter.unusedSimpArgs false

theorem wpList_appR {P : Program} (w : World) {ops : Array Oper} {rest : List Oper} {o : Oper} {a : Act} {Q : Exit → Act → World → Prop} (hgd : o.guard = none) (s x : Operand) (e t : TypeId)
    (ho : o.op = .call { callee := .builtin .append, args := #[s, x], argTypes := #[t, t] })
    (i : TypeInfo) (z : Value) (size bytes : Nat) (ht : P.underlying t = some (.slice e)) (hi : P.info? e = some i) (hz : i.zero = some z) (hs1 : i.size = size) (hs2 : i.bytes = bytes) (hzs : z.cells.size = size) (hsz : 0 < size) (hby : bytes ≤ 100)
    {B n : Nat} {v : Value} {xs : List Value} (hs : a.eval s = v) (hown : w.ownsRow B e size v n xs) {ad : Addr} {c : Nat} {news : List Value} (hx : a.eval x = .slice (some ad) 1 c) (hl : news.length = size) (hsrc : ∀ j u, news[j]? = some u → w.cell? (ad.add j) = some u) (h1 : ∀ u ∈ news, u.oneCell' = true) (hlen : n ≤ 1000000) (hB : B ≤ w.heap.size)
    (h : ∀ v' w', w'.ownsRow B e size v' (n + 1) (xs ++ news) → Tch (fun x => v.ownBlock = some x) w w' → Fr w v v' → wpList P ops Q rest (a.put o.dst v') w') : wpList P ops Q (o :: rest) a w := by
  refine wpList_plain hgd fun K hK => ?_
  obtain ⟨v', w', hr, h2, h3, h4⟩ := run_append_fr (P := P) w B t o.type e i z size bytes ht hi hz hs1 hs2 hzs hsz v n xs hown ad 1 c news (by rw [hl, Nat.one_mul]) hsrc h1 (by unfold maxLen; omega) (Nat.le_trans (Nat.mul_le_mul (show n + 1 ≤ 1000001 by omega) hby) (by decide)) hB
  unfold Oper.wp execOp
  simp only [ho, resolve, invoke, builtin, Sem.run_bind, Sem.run_pure, Result.andThen_ok, List.map_toArray, List.map_cons, List.map_nil, hs, hx, hr]
  exact hK _ _ (h v' w' h2 h3 h4)
theorem src_new (w : World) (e : TypeId) (news : List Value) : ∀ j u, news[j]? = some u → (w.alloc (.cells news.toArray e)).cell? ((⟨w.heap.size, 0, none⟩ : Addr).add j) = some u := by
  intro j u hu
  rw [Go.WideShapes.add_plain]
  have := (Blk.new w news.toArray e).cell (0 + j)
  rw [this, Nat.zero_add]
  exact hu
/-- A key's writers. -/
def wsOf (nn : Nat) (l : List Nat) : List Nat := if nn = 0 then [] else l.map (fun x => x % nn)
/-- Behind the keys ks. -/
def KQ (wS : World) (pt : List Bool) (ks : List (List Nat)) (v26 v27 : Value) (wq : World) : Prop :=
  ∃ tag a1 n1 c1 a2 n2 c2 kv hv, v26 = .slice a1 n1 c1 ∧ v27 = .slice a2 n2 c2 ∧ Bag wq tag (K4 wS.heap.size (.slice a1 n1 c1) kv (.slice a2 n2 c2) hv (.slice none 0 0) [] (.slice none 0 0) []) ∧ TB (fun _ => 0) wS tag wq ∧
    kv.length = ks.length ∧ (∀ (i : Nat) (ws : List Nat), ks[i]? = some ws → ∃ v, kv[i]? = some v ∧ Good wq tag v ws) ∧ hv.length = (hubs pt ks).length ∧ (∀ (i : Nat) (l : List Nat), (hubs pt ks)[i]? = some l → ∃ v, hv[i]? = some v ∧ Good wq tag v l)
theorem good_of {w : World} {tag : Nat → Nat} {B : Nat} {v : Value} {l : List Nat} (h : Own .i32 21 w B v (castN l)) (ht : ∀ g, v.ownBlock = some g → tag g = 0) : Good w tag v l := by
  obtain ⟨a, n, c, rfl⟩ := h.slice
  have hn := h.len
  rw [castN_len] at hn
  subst hn
  exact ⟨a, c, rfl, h.src, fun g hg => ⟨ht g hg, (h.lt hg).2⟩⟩
theorem Good.tag {w : World} {tag tag' : Nat → Nat} {v : Value} {l : List Nat} (h : Good w tag v l) (ht : ∀ x, tag x = 0 → tag' x = 0) : Good w tag' v l := by
  obtain ⟨a, c, e, h1, h2⟩ := h
  exact ⟨a, c, e, h1, fun g hg => ⟨ht g (h2 g hg).1, (h2 g hg).2⟩⟩
theorem snoc_at {α : Type} {l : List α} {x y : α} {i : Nat} (h : (l ++ [x])[i]? = some y) : (i < l.length ∧ l[i]? = some y) ∨ (i = l.length ∧ y = x) := by
  rcases Nat.lt_or_ge i l.length with h1 | h1
  · rw [List.getElem?_append_left h1] at h
    exact .inl ⟨h1, h⟩
  · rw [List.getElem?_append_right h1] at h
    have h2 : i - l.length = 0 := by
      rcases Nat.eq_zero_or_pos (i - l.length) with h3 | h3
      · exact h3
      · rw [List.getElem?_eq_none (by simp; omega)] at h; cases h
    rw [h2] at h
    simp at h
    exact .inr ⟨by omega, h.symm⟩
/-- One key more: no node. -/
theorem KQ.step {wS wq w : World} {pt : List Bool} {ks : List (List Nat)} {ws : List Nat} {tag tagq : Nat → Nat} {a1 a1' : Option Addr} {n1 c1 n1' c1' : Nat} {a2 a2' : Option Addr} {n2 c2 n2' c2' : Nat} {kv hv hv' : List Value} {v3 v4 : Value}
    (hk : kv.length = ks.length) (hkg : ∀ (i : Nat) (ws : List Nat), ks[i]? = some ws → ∃ v, kv[i]? = some v ∧ Good w tag v ws) (hh : hv.length = (hubs pt ks).length) (hhg : ∀ (i : Nat) (l : List Nat), (hubs pt ks)[i]? = some l → ∃ v, hv[i]? = some v ∧ Good w tag v l)
    (hb : Bag wq tagq (K4 wS.heap.size (.slice a1' n1' c1') (kv ++ [v3]) (.slice a2' n2' c2') hv' v3 (castN ws) v4 (castN (inP pt ws)))) (ht0 : TB (fun _ => 0) wS tag w) (ht : TB tag w tagq wq) (hhv : (2 ≤ (inP pt ws).length ∧ hv' = hv ++ [v4]) ∨ (¬ 2 ≤ (inP pt ws).length ∧ hv' = hv)) :
    KQ wS pt (ks ++ [ws]) (.slice a1' n1' c1') (.slice a2' n2' c2') wq := by
  obtain ⟨tag', q1, q2, q3, q4, q5⟩ := K4.lay hb (ht0.trans ht) rfl
  have g3 : Good wq tag' v3 ws := good_of (hb.say 3) q4
  have g4 : Good wq tag' v4 (inP pt ws) := good_of (hb.say 4) q5
  have e0 : hubs pt (ks ++ [ws]) = hubs pt ks ++ (if 2 ≤ (inP pt ws).length then [inP pt ws] else []) := by
    rw [hubs_append]
    show _ ++ (_ ++ []) = _
    rw [List.append_nil]
  refine ⟨tag', a1', n1', c1', a2', n2', c2', kv ++ [v3], hv', rfl, rfl, q1, q2, by simp [hk], fun i u hu => ?_, ?_, fun i l hl => ?_⟩
  · rcases snoc_at hu with ⟨h1, h2⟩ | ⟨h1, h2⟩
    · obtain ⟨v, hv1, hv2⟩ := hkg i u h2
      exact ⟨v, by rw [List.getElem?_append_left (by omega)]; exact hv1, (hv2.tb ht).tag q3⟩
    · subst h2
      exact ⟨v3, by rw [List.getElem?_append_right (by omega), h1, hk]; simp, g3⟩
  · rw [e0]
    rcases hhv with ⟨h1, rfl⟩ | ⟨h1, rfl⟩
    · rw [if_pos h1]; simp [hh]
    · rw [if_neg h1]; simp [hh]
  · rw [e0] at hl
    rcases hhv with ⟨h1, rfl⟩ | ⟨h1, rfl⟩
    · rw [if_pos h1] at hl
      rcases snoc_at hl with ⟨h2, h3⟩ | ⟨h2, h3⟩
      · obtain ⟨v, hv1, hv2⟩ := hhg i l h3
        exact ⟨v, by rw [List.getElem?_append_left (by omega)]; exact hv1, (hv2.tb ht).tag q3⟩
      · subst h3
        exact ⟨v4, by rw [List.getElem?_append_right (by omega), h2, hh]; simp, g4⟩
    · rw [if_neg h1, List.append_nil] at hl
      obtain ⟨v, hv1, hv2⟩ := hhg i l hl
      exact ⟨v, hv1, (hv2.tb ht).tag q3⟩
end Go.Proofs.Ybulkaxc.Law
