/-
  The roundSearch in memory: its block, its rows, and who owns a block.
-/
import Derived.Test.YbulkaxcDoorSmall
import Derived.Test.YbulkaxcDoorFirst
namespace Go.Proofs.YbulkaxcDoor.RS
open Go Go.RowKit Go.Proofs.YbulkaxcDoor.Mem Go.Proofs.YbulkaxcDoor.Pl
set_option linter.unusedVariables false

/-- What the search's fields hold: the slices' values and their numbers. -/
structure Rs where
  onw : List Int
  beh : List Int
  stk : List Int
  into : List Int
  tls : List Int
  ys : List Int
  near : List Int
  vr : Value
  vo : Value
  vb : Value
  vs : Value
  vi : Value
  vt : Value
  vy : Value
  va : Value
  vn : Value
  srch : Int
  marked : Int
  nA : Nat

def Rs.val (s : Rs) : Nat → Value
  | 2 => s.vr
  | 3 => s.vo
  | 4 => s.vb
  | 5 => s.vs
  | 6 => s.vi
  | 7 => s.vt
  | 8 => s.vy
  | 9 => s.va
  | 10 => s.vn
  | _ => .slice none 0 0
def Rs.own (s : Rs) (P B : Nat) (w : World) : Nat → Prop
  | 2 => Own .i32 21 w B s.vr (List.replicate P 0)
  | 3 => Own .i32 21 w B s.vo s.onw
  | 4 => Own .i32 21 w B s.vb s.beh
  | 5 => Own .i32 21 w B s.vs s.stk
  | 6 => Own .i32 21 w B s.vi s.into
  | 7 => Own .i32 21 w B s.vt s.tls
  | 8 => Own .i32 21 w B s.vy s.ys
  | 9 => ∃ xs, w.ownsRow B 64 6 s.va s.nA xs
  | 10 => Own .i64 3 w B s.vn s.near
  | _ => True
def Rs.cells (s : Rs) (gd : Nat) : List Value :=
  [.pointer (some ⟨gd, 0, none⟩), s.vr, s.vo, s.vb, .int .i32 s.srch, s.vs, s.vi, s.vt, s.vy, s.va, s.vn, .slice none 0 0, .int .i64 s.marked]

theorem Rs.own_touch {s : Rs} {P B : Nat} {w w' : World} {S : Nat → Prop} (t : Tch S w w') (i : Nat) (h : s.own P B w i) (hn : ∀ g, (s.val i).ownBlock = some g → ¬ S g) : s.own P B w' i := by
  unfold Rs.own at h ⊢
  unfold Rs.val at hn
  split at h
  case h_8 =>
    obtain ⟨xs, h⟩ := h
    exact ⟨xs, ownsRow_touch h t hn⟩
  case h_10 => trivial
  all_goals exact h.touch t hn
theorem Rs.own_lt {s : Rs} {P B : Nat} {w : World} (i : Nat) (h : s.own P B w i) {g : Nat} (hg : (s.val i).ownBlock = some g) : B ≤ g ∧ g < w.heap.size := by
  unfold Rs.own at h
  unfold Rs.val at hg
  split at h
  case h_8 =>
    obtain ⟨xs, h⟩ := h
    exact World.ownsRow.lt h g hg
  case h_10 => simp [Value.ownBlock] at hg
  all_goals exact h.lt hg

/-- The search in memory. -/
structure RS (w : World) (B grs gd P : Nat) (tag : Nat → Nat) (s : Rs) : Prop where
  blk : Blk w grs 57 (s.cells gd)
  own : ∀ i, s.own P B w i
  hB : B ≤ w.heap.size
  tg : tag grs = 1
  tv : ∀ i g, (s.val i).ownBlock = some g → tag g = i

/-- From w to w' only blocks that the search owns, and new ones, have turned; who owns an old block has not turned. -/
structure TT (tag : Nat → Nat) (w : World) (tag' : Nat → Nat) (w' : World) : Prop where
  tch : Tch (fun x => tag x ≠ 0) w w'
  old : ∀ x, x < w.heap.size → tag' x = tag x
theorem TT.refl (tag : Nat → Nat) (w : World) : TT tag w tag w := ⟨Tch.refl _ _, fun _ _ => rfl⟩
theorem TT.trans {tag tag' tag'' : Nat → Nat} {w w' w'' : World} (h : TT tag w tag' w') (k : TT tag' w' tag'' w'') : TT tag w tag'' w'' :=
  ⟨h.tch.trans k.tch (fun x hx => by
    by_cases hl : x < w.heap.size
    · rw [h.old x hl] at hx; exact .inl hx
    · exact .inr (by omega)), fun x hx => by rw [k.old x (Nat.lt_of_lt_of_le hx h.tch.size), h.old x hx]⟩
theorem TT.keep {tag : Nat → Nat} {w w' : World} (t : Tch Non w w') : TT tag w tag w' := ⟨t.non, fun _ _ => rfl⟩
theorem TT.drewN {tag tag' : Nat → Nat} {w w' : World} (h : TT tag w tag' w') (n : Nat) : TT tag w tag' (w'.drewN n) := ⟨h.tch.drewN n, h.old⟩

theorem RS.keep {w w' : World} {B grs gd P : Nat} {tag : Nat → Nat} {s : Rs} (h : RS w B grs gd P tag s) (t : Tch Non w w') : RS w' B grs gd P tag s :=
  ⟨h.blk.keep t, fun i => Rs.own_touch t i (h.own i) (fun _ _ h => h), Nat.le_trans h.hB t.size, h.tg, h.tv⟩
theorem RS.drewN {w : World} {B grs gd P : Nat} {tag : Nat → Nat} {s : Rs} (h : RS w B grs gd P tag s) (n : Nat) : RS (w.drewN n) B grs gd P tag s := h.keep ((Tch.refl _ _).drewN n)

/-- ONE STEP: the slice number k (2 .. 10) has been written, appended to or replaced; the block has been stored to. -/
theorem RS.upd {w w' : World} {B grs gd P : Nat} {tag : Nat → Nat} {s : Rs} (h : RS w B grs gd P tag s) (k : Nat) (hk : 2 ≤ k) (s' : Rs) (S : Nat → Prop) (t : Tch S w w') (hS : ∀ x, S x → x = grs ∨ (s.val k).ownBlock = some x)
    (ho : ∀ i, i ≠ k → s'.val i = s.val i ∧ ∀ w, s'.own P B w i = s.own P B w i) (hkk : s'.own P B w' k) (hf : Fr w (s.val k) (s'.val k)) (hb : Blk w' grs 57 (s'.cells gd)) :
    ∃ tag', RS w' B grs gd P tag' s' ∧ TT tag w tag' w' := by
  have hgl := h.blk.lt
  refine ⟨fun x => if x < w.heap.size then tag x else k, ⟨hb, fun i => ?_, Nat.le_trans h.hB t.size, ?_, fun i g hg => ?_⟩, ⟨t.mono (fun x hx => .inl ?_), fun x hx => if_pos hx⟩⟩
  · by_cases e : i = k
    · rw [e]; exact hkk
    · rw [(ho i e).2]
      refine Rs.own_touch t i (h.own i) (fun g hg hs => ?_)
      rcases hS g hs with h1 | h1
      · have := h.tv i g hg
        rw [h1, h.tg] at this
        subst this
        simp [Rs.val, Value.ownBlock] at hg
      · exact e ((h.tv i g hg).symm.trans (h.tv k g h1))
  · simp only [if_pos hgl]; exact h.tg
  · by_cases e : i = k
    · subst e
      rcases hf g hg with h1 | h1
      · have := (Rs.own_lt i (h.own i) h1).2
        simp only [if_pos this]; exact h.tv i g h1
      · have : ¬ g < w.heap.size := by omega
        simp only [if_neg this]
    · rw [(ho i e).1] at hg
      have := (Rs.own_lt i (h.own i) hg).2
      simp only [if_pos this]
      exact h.tv i g hg
  · rcases hS x hx with h1 | h1
    · rw [h1, h.tg]; simp
    · rw [h.tv k x h1]; omega

/-- The block alone has been stored to (a counter). -/
theorem RS.num {w w' : World} {B grs gd P : Nat} {tag : Nat → Nat} {s : Rs} (h : RS w B grs gd P tag s) (s' : Rs) (t : Tch (fun x => x = grs) w w')
    (ho : ∀ i, s'.val i = s.val i ∧ ∀ w, s'.own P B w i = s.own P B w i) (hb : Blk w' grs 57 (s'.cells gd)) : RS w' B grs gd P tag s' ∧ TT tag w tag w' := by
  refine ⟨⟨hb, fun i => ?_, Nat.le_trans h.hB t.size, h.tg, fun i g hg => ?_⟩, ⟨t.mono (fun x hx => .inl (by rw [hx, h.tg]; simp)), fun _ _ => rfl⟩⟩
  · rw [(ho i).2]
    refine Rs.own_touch t i (h.own i) (fun g hg hs => ?_)
    have := h.tv i g hg
    rw [hs, h.tg] at this
    subst this
    simp [Rs.val, Value.ownBlock] at hg
  · rw [(ho i).1] at hg; exact h.tv i g hg
end Go.Proofs.YbulkaxcDoor.RS
