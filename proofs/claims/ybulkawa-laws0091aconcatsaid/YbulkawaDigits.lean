/-
  countDigits and isDigit: the plain function, and the contract of countDigits over the seat's program.
-/
import Derived.Test.YbulkawaRows
import Derived.WalkKit
import Derived.OpenShut
namespace Go.Proofs.Ybulkawa.Digits
open Go.RowKit

/-- Is the byte an ASCII digit? -/
def isD (c : UInt8) : Bool := decide (48 ≤ (c.toNat : Int)) && decide ((c.toNat : Int) ≤ 57)
/-- How many ASCII digits does the text start with? -/
def cd (l : List UInt8) : Nat := (l.takeWhile isD).length

theorem isD_yes {c : UInt8} (h1 : (48 : Int) ≤ (c.toNat : Int)) (h2 : (c.toNat : Int) ≤ 57) : isD c = true := by
  unfold isD; simp only [h1, h2, decide_true, Bool.and_self]
theorem isD_lo {c : UInt8} (h1 : (c.toNat : Int) < 48) : isD c = false := by
  unfold isD; rw [decide_eq_false (by omega)]; rfl
theorem isD_hi {c : UInt8} (h1 : 57 < (c.toNat : Int)) : isD c = false := by
  unfold isD; rw [decide_eq_false (p := (c.toNat : Int) ≤ 57) (by omega), Bool.and_false]

theorem cd_le (l : List UInt8) : cd l ≤ l.length := by
  unfold cd
  induction l with
  | nil => simp
  | cons a l ih =>
    rw [List.takeWhile_cons]
    split
    · simp; omega
    · simp

theorem cd_append {l m : List UInt8} (h : ∀ c ∈ l, isD c = true) : cd (l ++ m) = l.length + cd m := by
  induction l with
  | nil => simp
  | cons a l ih =>
    have ha := h a (by simp)
    have := ih (fun c hc => h c (by simp [hc]))
    unfold cd at this ⊢
    simp only [List.cons_append, List.takeWhile_cons, ha, if_true, List.length_cons]
    omega

theorem cd_all {l : List UInt8} (h : ∀ c ∈ l, isD c = true) : cd l = l.length := by
  have := cd_append (m := []) h
  simp [cd] at this ⊢
  exact this

theorem cd_stop {l : List UInt8} {k : Nat} (hk : k < l.length) (h : ∀ c ∈ l.take k, isD c = true) (hn : isD l[k] = false) : cd l = k := by
  have e : l = l.take k ++ l.drop k := (List.take_append_drop k l).symm
  have e2 : l.drop k = l[k] :: l.drop (k + 1) := (List.getElem_cons_drop hk).symm
  rw [e, cd_append h, e2]
  simp only [cd, List.takeWhile_cons, hn, Bool.false_eq_true, if_false, List.length_nil, List.length_take]
  omega

theorem take_snoc (s : ByteArray) (k : Nat) (h : k < s.size) : s.data.toList.take (k + 1) = s.data.toList.take k ++ [s[k]] := by
  rw [List.take_succ_eq_append_getElem (by simpa using h)]; rfl

theorem take_step {s : ByteArray} {k : Nat} (hlt : k < s.size) (h : ∀ c ∈ s.data.toList.take k, isD c = true) (hn : isD s[k] = true) : ∀ c ∈ s.data.toList.take (k + 1), isD c = true := by
  rw [take_snoc s k hlt]
  intro c hc
  rcases List.mem_append.1 hc with hc | hc
  · exact h c hc
  · rw [List.mem_singleton.1 hc]; exact hn

theorem stop_at {s : ByteArray} {k : Nat} (hlt : k < s.size) (h : ∀ c ∈ s.data.toList.take k, isD c = true) (hn : isD s[k] = false) : cd s.data.toList = k :=
  cd_stop (by simpa using hlt) h (by exact hn)

theorem stop_end {s : ByteArray} {k : Nat} (hk : k ≤ s.size) (hlt : ¬ k < s.size) (h : ∀ c ∈ s.data.toList.take k, isD c = true) : cd s.data.toList = k := by
  rw [List.take_of_length_le (by simp; omega)] at h
  rw [cd_all h]
  simp; omega

theorem ret_int {k : IntKind} {a b : Int} (h : a = b) : Ending.returned (.int k a) = .returned (.int k b) := by rw [h]

set_option maxHeartbeats 400000 in
theorem count_any (s : ByteArray) (w : World) (hs : s.size ≤ maxLen) :
    Calls Yba.prog 7 #[.string s] w fun e w' => e = .returned (.int .i64 (cd s.data.toList : Nat)) ∧ w' = w := by
  unfold maxLen at hs
  go_enter Yba.func7, Yba.ntmps7
  go_wp2
  go_loop [3] (fun n => ∃ k : Nat, k ≤ s.size ∧ n = .int .i64 k ∧ Hid (∀ c ∈ s.data.toList.take k, isD c = true)) (fun n => s.size - (intOf n).toNat)
  case atStart => exact ⟨0, Nat.zero_le _, rfl, by intro c hc; simp at hc⟩
  case round =>
    obtain ⟨k, hk, rfl, hall⟩ := hrel
    by_cases hlt : k < s.size
    · by_cases h1 : (48 : Int) ≤ (s[k].toNat : Int)
      · by_cases h2 : (s[k].toNat : Int) ≤ 57
        · go_wp2
          go_round
          case rel => exact ⟨k + 1, by omega, by go_num, take_step hlt hall.out (isD_yes h1 h2)⟩
          case measure => simp [intOf]; omega
        · go_wp2
          go_ret
          exact ⟨ret_int (by rw [stop_at hlt hall.out (isD_hi (by omega))]), rfl⟩
      · go_wp2
        go_ret
        exact ⟨ret_int (by rw [stop_at hlt hall.out (isD_lo (by omega))]), rfl⟩
    · go_wp2
      go_ret
      exact ⟨ret_int (by rw [stop_end hk hlt hall.out]), rfl⟩
end Go.Proofs.Ybulkawa.Digits
