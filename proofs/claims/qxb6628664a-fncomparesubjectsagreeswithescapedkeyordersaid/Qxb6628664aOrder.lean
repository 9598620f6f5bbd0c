import Derived.Test.Qxb6628664aBytes
namespace Go.Proofs.Qxb6628664a
open Go.RowKit
open Go.Lib (compareBytes)

theorem esc_nil (x : List Int) : esc [] ++ x = 0 :: 0 :: x := rfl
theorem esc_cons (c : UInt8) (l : List UInt8) (x : List Int) : esc (c :: l) ++ x = e1 c ++ (esc l ++ x) := by
  unfold esc eb; simp
theorem cmpI_same (a : Int) (l r : List Int) : cmpI (a :: l) (a :: r) = cmpI l r := by
  rw [cmpI_cons, if_neg (by omega), if_neg (by omega)]
theorem cmpI_lt {a b : Int} (l r : List Int) (h : a < b) : cmpI (a :: l) (b :: r) = -1 := by rw [cmpI_cons, if_pos h]
theorem cmpI_gt {a b : Int} (l r : List Int) (h : b < a) : cmpI (a :: l) (b :: r) = 1 := by rw [cmpI_cons, if_neg (by omega), if_pos h]
theorem cmpI_app : ∀ (p l r : List Int), cmpI (p ++ l) (p ++ r) = cmpI l r
  | [], _, _ => rfl
  | a :: p, l, r => by rw [List.cons_append, List.cons_append, cmpI_same]; exact cmpI_app p l r

theorem e1_zero {c : UInt8} (h : c.toNat = 0) : e1 c = [0, 1] := by unfold e1; rw [if_pos (by omega)]
theorem e1_pos {c : UInt8} (h : 0 < c.toNat) : e1 c = [(c.toNat : Int)] := by unfold e1; rw [if_neg (by omega)]

theorem if_m1 (z : Int) : (if ((-1 : Int) != 0) = true then (-1 : Int) else z) = -1 := rfl
theorem if_p1 (z : Int) : (if ((1 : Int) != 0) = true then (1 : Int) else z) = 1 := rfl

/-- THE PLAIN LAW: the order of two escaped fields, each followed by whatever: the fields' own order, and where they are equal that of what follows. -/
theorem esc_order : ∀ (a b : List UInt8) (x y : List Int), cmpI (esc a ++ x) (esc b ++ y) = if (compareBytes a b != 0) = true then compareBytes a b else cmpI x y
  | [], [], x, y => by
    rw [esc_nil, esc_nil, cmpI_same, cmpI_same]; rfl
  | [], c :: b, x, y => by
    rw [esc_nil, esc_cons]
    have e : compareBytes [] (c :: b) = -1 := rfl
    rw [e, if_m1]
    rcases Nat.eq_zero_or_pos c.toNat with h | h
    · rw [e1_zero h]
      show cmpI (0 :: 0 :: x) (0 :: 1 :: (esc b ++ y)) = -1
      rw [cmpI_same]; exact cmpI_lt _ _ (by decide)
    · rw [e1_pos h]; exact cmpI_lt _ _ (by omega)
  | c :: a, [], x, y => by
    rw [esc_nil, esc_cons]
    have e : compareBytes (c :: a) [] = 1 := rfl
    rw [e, if_p1]
    rcases Nat.eq_zero_or_pos c.toNat with h | h
    · rw [e1_zero h]
      show cmpI (0 :: 1 :: (esc a ++ x)) (0 :: 0 :: y) = 1
      rw [cmpI_same]; exact cmpI_gt _ _ (by decide)
    · rw [e1_pos h]; exact cmpI_gt _ _ (by omega)
  | c :: a, d :: b, x, y => by
    have ih := esc_order a b x y
    rw [esc_cons, esc_cons]
    have e : compareBytes (c :: a) (d :: b) = if c < d then -1 else if d < c then 1 else compareBytes a b := rfl
    rw [e]
    by_cases h1 : c < d
    · rw [if_pos h1, if_m1]
      have h1' : c.toNat < d.toNat := UInt8.lt_iff_toNat_lt.1 h1
      rw [e1_pos (c := d) (by omega)]
      rcases Nat.eq_zero_or_pos c.toNat with h | h
      · rw [e1_zero h]; exact cmpI_lt _ _ (by omega)
      · rw [e1_pos h]; exact cmpI_lt _ _ (by omega)
    · rw [if_neg h1]
      by_cases h2 : d < c
      · rw [if_pos h2, if_p1]
        have h2' : d.toNat < c.toNat := UInt8.lt_iff_toNat_lt.1 h2
        rw [e1_pos (c := c) (by omega)]
        rcases Nat.eq_zero_or_pos d.toNat with h | h
        · rw [e1_zero h]; exact cmpI_gt _ _ (by omega)
        · rw [e1_pos h]; exact cmpI_gt _ _ (by omega)
      · rw [if_neg h2]
        have hcd : c = d := UInt8.le_antisymm (UInt8.not_lt.1 h2) (UInt8.not_lt.1 h1)
        subst hcd
        rw [cmpI_app]; exact ih

theorem key_order (a1 a2 a3 b1 b2 b3 : ByteArray) : cmpI (key a1.data.toList a2.data.toList a3.data.toList) (key b1.data.toList b2.data.toList b3.data.toList) = cmp3 a1 a2 a3 b1 b2 b3 := by
  unfold key cmp3 cmpB
  rw [List.append_assoc, List.append_assoc, esc_order, esc_order]
  have h := esc_order a3.data.toList b3.data.toList [] []
  rw [List.append_nil, List.append_nil] at h
  rw [h]
  have e : ∀ z : Int, (if (z != 0) = true then z else cmpI [] []) = z := fun z => by
    split
    · rfl
    · rename_i hz; simp at hz; rw [hz]; rfl
  rw [e]

theorem key_len (a b c : ByteArray) (ha : a.size ≤ 65536) (hb : b.size ≤ 65536) (hc : c.size ≤ 65536) : (key a.data.toList b.data.toList c.data.toList).length ≤ 1073741824 := by
  have la := esc_len a.data.toList
  have lb := esc_len b.data.toList
  have lc := esc_len c.data.toList
  have sa : a.data.toList.length = a.size := by simp
  have sb : b.data.toList.length = b.size := by simp
  have sc : c.data.toList.length = c.size := by simp
  unfold key
  rw [List.length_append, List.length_append]; omega

end Go.Proofs.Qxb6628664a
