import Derived.Test.Qxb6628664aCmp
namespace Go.Proofs.Qxb6628664a
open Go.Lib (compareBytes)

theorem cb_self : ∀ l : List UInt8, compareBytes l l = 0
  | [] => rfl
  | a :: l => by
    unfold compareBytes
    rw [if_neg (UInt8.lt_irrefl a), if_neg (UInt8.lt_irrefl a)]; exact cb_self l

theorem cb_ext : ∀ (l : List UInt8) {y : List UInt8}, y ≠ [] → compareBytes l (l ++ y) = -1 ∧ compareBytes (l ++ y) l = 1
  | [], y, h => by
    cases y with
    | nil => exact absurd rfl h
    | cons c y => exact ⟨rfl, rfl⟩
  | a :: l, y, h => by
    have ih := cb_ext l h
    constructor
    · show (if a < a then (-1 : Int) else if a < a then 1 else compareBytes l (l ++ y)) = -1
      rw [if_neg (UInt8.lt_irrefl a), if_neg (UInt8.lt_irrefl a)]; exact ih.1
    · show (if a < a then (-1 : Int) else if a < a then 1 else compareBytes (l ++ y) l) = 1
      rw [if_neg (UInt8.lt_irrefl a), if_neg (UInt8.lt_irrefl a)]; exact ih.2

theorem cb_anti : ∀ a b : List UInt8, compareBytes b a = -compareBytes a b
  | [], [] => rfl
  | [], _ :: _ => rfl
  | _ :: _, [] => rfl
  | x :: a, y :: b => by
    show (if y < x then (-1 : Int) else if x < y then 1 else compareBytes b a) = -(if x < y then (-1 : Int) else if y < x then 1 else compareBytes a b)
    by_cases h1 : x < y
    · have h2 : ¬ y < x := fun h => UInt8.lt_irrefl _ (UInt8.lt_trans h1 h)
      rw [if_neg h2, if_pos h1, if_pos h1]; rfl
    · rw [if_neg h1, if_neg h1]
      by_cases h2 : y < x
      · rw [if_pos h2, if_pos h2]
      · rw [if_neg h2, if_neg h2]; exact cb_anti a b

theorem cb_range : ∀ a b : List UInt8, -1 ≤ compareBytes a b ∧ compareBytes a b ≤ 1
  | [], [] => ⟨by decide, by decide⟩
  | [], _ :: _ => ⟨by simp [compareBytes], by simp [compareBytes]⟩
  | _ :: _, [] => ⟨by simp [compareBytes], by simp [compareBytes]⟩
  | x :: a, y :: b => by
    show -1 ≤ (if x < y then (-1 : Int) else if y < x then 1 else compareBytes a b) ∧ (if x < y then (-1 : Int) else if y < x then 1 else compareBytes a b) ≤ 1
    have ih := cb_range a b
    split
    · omega
    · split <;> omega

theorem cb_zero : ∀ a b : List UInt8, compareBytes a b = 0 → a = b
  | [], [], _ => rfl
  | [], _ :: _, h => by simp [compareBytes] at h
  | _ :: _, [], h => by simp [compareBytes] at h
  | x :: a, y :: b, h => by
    have h' : (if x < y then (-1 : Int) else if y < x then 1 else compareBytes a b) = 0 := h
    by_cases h1 : x < y
    · rw [if_pos h1] at h'; omega
    · rw [if_neg h1] at h'
      by_cases h2 : y < x
      · rw [if_pos h2] at h'; omega
      · rw [if_neg h2] at h'
        have e : x = y := UInt8.le_antisymm (UInt8.not_lt.1 h2) (UInt8.not_lt.1 h1)
        rw [e, cb_zero a b h']

theorem cmpB_self (a : ByteArray) : cmpB a a = 0 := cb_self _
theorem cmpB_range (a b : ByteArray) : -1 ≤ cmpB a b ∧ cmpB a b ≤ 1 := cb_range _ _
theorem cmpB_anti (a b : ByteArray) : cmpB b a = -cmpB a b := cb_anti _ _
theorem cmpB_zero {a b : ByteArray} (h : cmpB a b = 0) : a = b := by
  have := cb_zero _ _ h
  apply ByteArray.ext
  exact Array.toList_inj.1 this

theorem cmpB_ext (a x : ByteArray) (h : x.data.toList ≠ []) : cmpB a (a ++ x) = -1 ∧ cmpB (a ++ x) a = 1 := by
  unfold cmpB
  rw [show (a ++ x).data.toList = a.data.toList ++ x.data.toList by simp]
  exact cb_ext _ h

theorem cmp3_range (a1 a2 a3 b1 b2 b3 : ByteArray) : -1 ≤ cmp3 a1 a2 a3 b1 b2 b3 ∧ cmp3 a1 a2 a3 b1 b2 b3 ≤ 1 := by
  unfold cmp3
  have h1 := cmpB_range a1 b1
  have h2 := cmpB_range a2 b2
  have h3 := cmpB_range a3 b3
  split
  · exact h1
  · split
    · exact h2
    · exact h3

theorem cmp3_anti (a1 a2 a3 b1 b2 b3 : ByteArray) : cmp3 b1 b2 b3 a1 a2 a3 = -cmp3 a1 a2 a3 b1 b2 b3 := by
  unfold cmp3
  rw [cmpB_anti a1 b1, cmpB_anti a2 b2, cmpB_anti a3 b3]
  have e : ∀ z : Int, (-z != 0) = (z != 0) := fun z => by
    rw [Bool.eq_iff_iff]; simp
  rw [e, e]
  split
  · rfl
  · split <;> rfl

theorem cmp3_first {a1 b1 : ByteArray} (a2 a3 b2 b3 : ByteArray) (h : cmpB a1 b1 ≠ 0) : cmp3 a1 a2 a3 b1 b2 b3 = cmpB a1 b1 := by
  unfold cmp3; rw [if_pos (by simpa using h)]

theorem cmp3_cancel (a b : ByteArray) (a2 a3 b2 b3 : ByteArray) : cmp3 a a2 a3 a b2 b3 = cmp3 b a2 a3 b b2 b3 := by
  unfold cmp3; rw [cmpB_self, cmpB_self]

theorem cmp3_zero (a a2 a3 b2 b3 : ByteArray) : cmp3 a a2 a3 a b2 b3 = 0 ↔ a2 = b2 ∧ a3 = b3 := by
  unfold cmp3
  rw [cmpB_self, if_neg (by simp)]
  constructor
  · intro h
    by_cases h2 : (cmpB a2 b2 != 0) = true
    · rw [if_pos h2] at h; simp [h] at h2
    · rw [if_neg h2] at h
      exact ⟨cmpB_zero (by simpa using h2), cmpB_zero h⟩
  · rintro ⟨rfl, rfl⟩
    rw [cmpB_self, cmpB_self]; simp

end Go.Proofs.Qxb6628664a
