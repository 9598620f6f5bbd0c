import Derived.Test.Qxb6628664aPlain
namespace Go.Proofs.Qxb6628664a
open Go.RowKit

set_option maxHeartbeats 1000000 in
theorem ext_walk (a0 a1 a2 x b1 b2 : ByteArray) (w : World) (h0 : a0.size ≤ 9223372036854775807) (h1 : a1.size ≤ 9223372036854775807) (h2 : a2.size ≤ 9223372036854775807) (hx : x.size ≤ 9223372036854775807) (k1 : b1.size ≤ 9223372036854775807) (k2 : b2.size ≤ 9223372036854775807) :
    Calls Try.prog 4 #[.string a0, .string a1, .string a2, .string x, .string b1, .string b2] w fun e w' => e = .returned (.bool true) ∧ Grown w w' := by
  have hzz := zz9_any a0 a1 a2 x b1 b2 w h0 h1 h2 hx k1 k2
  go_enter Try.func4, Try.ntmps4
  go_wp2_with fail
  refine hzz.mono ?_
  rintro e w' ⟨⟨r, rfl⟩, rfl⟩
  clear hzz
  cases r
  · go_wp2
    go_ret
    exact ⟨rfl, Grown.refl _⟩
  by_cases g0 : 65536 < a0.size
  · go_wp2
    go_ret
    exact ⟨rfl, Grown.refl _⟩
  by_cases g1 : 65536 < a1.size
  · go_wp2
    go_ret
    exact ⟨rfl, Grown.refl _⟩
  by_cases g2 : 65536 < a2.size
  · go_wp2
    go_ret
    exact ⟨rfl, Grown.refl _⟩
  by_cases g3 : 65536 < x.size
  · go_wp2
    go_ret
    exact ⟨rfl, Grown.refl _⟩
  by_cases g4 : 65536 < b1.size
  · go_wp2
    go_ret
    exact ⟨rfl, Grown.refl _⟩
  by_cases g5 : 65536 < b2.size
  · go_wp2
    go_ret
    exact ⟨rfl, Grown.refl _⟩
  go_wp2_with fail
  refine (cs_any _ _ _ _ _ _ _).mono ?_
  rintro e w1 ⟨rfl, rfl⟩
  go_wp2_with fail
  refine (cs_any _ _ _ _ _ _ _).mono ?_
  rintro e w2 ⟨rfl, rfl⟩
  have G1 : Grown w' ((((((w'.alloc (.cells #[.string a0, .string a1, .string a2] 27)).alloc (.cells #[.string (a0 ++ x), .string b1, .string b2] 27)).alloc (box3 a0 a1 a2)).alloc (box3 (a0 ++ x) b1 b2)).alloc (box3 (a0 ++ x) b1 b2)).alloc (box3 a0 a1 a2)) := by
    repeat (first | exact Grown.refl _ | apply Grown.alloc)
  by_cases hx0 : x.data.toList = []
  · have hxe : x.toList.isEmpty = true := by rw [Lib.toList_data, hx0]; rfl
    have hax : a0 ++ x = a0 := by
      apply ByteArray.ext
      apply Array.toList_inj.1
      simp [hx0]
    have e1 : (cmp3 a0 a1 a2 (a0 ++ x) b1 b2 == cmp3 ⟨#[]⟩ a1 a2 ⟨#[]⟩ b1 b2) = true := by rw [hax, cmp3_cancel a0 ⟨#[]⟩]; simp
    have e2 : (cmp3 (a0 ++ x) b1 b2 a0 a1 a2 == cmp3 ⟨#[]⟩ b1 b2 ⟨#[]⟩ a1 a2) = true := by rw [hax, cmp3_cancel a0 ⟨#[]⟩]; simp
    have hz := cmp3_zero a0 a1 a2 b1 b2
    have hr := cmp3_range a0 a1 a2 a0 b1 b2
    have HZ : Hid (cmp3 a0 a1 a2 (a0 ++ x) b1 b2 = 0 ↔ a1 = b1 ∧ a2 = b2) := by unfold Hid; rw [hax]; exact hz
    have HR : Hid (-1 ≤ cmp3 a0 a1 a2 (a0 ++ x) b1 b2 ∧ cmp3 a0 a1 a2 (a0 ++ x) b1 b2 ≤ 1) := by unfold Hid; rw [hax]; exact hr
    have G2 := Grown.alloc (Grown.alloc (Grown.alloc (Grown.alloc (Grown.alloc (Grown.alloc G1 #[.string ⟨#[]⟩, .string a1, .string a2] 27) #[.string ⟨#[]⟩, .string b1, .string b2] 27) #[.string ⟨#[]⟩, .string a1, .string a2] 27) #[.string ⟨#[]⟩, .string b1, .string b2] 27) #[.string ⟨#[]⟩, .string b1, .string b2] 27) #[.string ⟨#[]⟩, .string a1, .string a2] 27
    clear hax hz hr hx0 G1
    go_wp2_with fail
    refine (cs_any _ _ _ _ _ _ _).mono ?_
    rintro e w3 ⟨rfl, rfl⟩
    go_wp2_with fail
    refine (cs_any _ _ _ _ _ _ _).mono ?_
    rintro e w4 ⟨rfl, rfl⟩
    by_cases q1 : a1 = b1
    · by_cases q2 : a2 = b2
      · have r1 : (a1.toList == b1.toList) = true := by rw [q1]; simp
        have r2 : (a2.toList == b2.toList) = true := by rw [q2]; simp
        have r3 : (cmp3 a0 a1 a2 (a0 ++ x) b1 b2 == 0) = true := by simpa using HZ.out.2 ⟨q1, q2⟩
        have r4 : (cmp3 a0 a1 a2 (a0 ++ x) b1 b2 == -1) = false := by have := HZ.out.2 ⟨q1, q2⟩; simp [this]
        clear q1 q2
        go_wp2
        go_ret
        exact ⟨rfl, G2⟩
      · have r1 : (a1.toList == b1.toList) = true := by rw [q1]; simp
        have r2 : (a2.toList == b2.toList) = false := by rw [Lib.toList_data, Lib.toList_data]; exact beq_eq_false_iff_ne.2 (fun h => q2 (WideShapes.bytes_inj h))
        have n0 : ¬ cmp3 a0 a1 a2 (a0 ++ x) b1 b2 = 0 := fun h => q2 (HZ.out.1 h).2
        have r3 : (cmp3 a0 a1 a2 (a0 ++ x) b1 b2 == 0) = false := by simpa using n0
        clear q1 q2
        rcases (show cmp3 a0 a1 a2 (a0 ++ x) b1 b2 = -1 ∨ cmp3 a0 a1 a2 (a0 ++ x) b1 b2 = 1 from by have := HR.out; omega) with r5 | r5
        · have r4 : (cmp3 a0 a1 a2 (a0 ++ x) b1 b2 == -1) = true := by simpa using r5
          clear r5 n0
          go_wp2
          go_ret
          exact ⟨rfl, G2⟩
        · have r4 : (cmp3 a0 a1 a2 (a0 ++ x) b1 b2 == -1) = false := by rw [r5]; rfl
          have r6 : (cmp3 a0 a1 a2 (a0 ++ x) b1 b2 == 1) = true := by simpa using r5
          clear r5 n0
          go_wp2
          go_ret
          exact ⟨rfl, G2⟩
    · have r1 : (a1.toList == b1.toList) = false := by rw [Lib.toList_data, Lib.toList_data]; exact beq_eq_false_iff_ne.2 (fun h => q1 (WideShapes.bytes_inj h))
      have n0 : ¬ cmp3 a0 a1 a2 (a0 ++ x) b1 b2 = 0 := fun h => q1 (HZ.out.1 h).1
      have r3 : (cmp3 a0 a1 a2 (a0 ++ x) b1 b2 == 0) = false := by simpa using n0
      clear q1
      rcases (show cmp3 a0 a1 a2 (a0 ++ x) b1 b2 = -1 ∨ cmp3 a0 a1 a2 (a0 ++ x) b1 b2 = 1 from by have := HR.out; omega) with r5 | r5
      · have r4 : (cmp3 a0 a1 a2 (a0 ++ x) b1 b2 == -1) = true := by simpa using r5
        clear r5 n0
        go_wp2
        go_ret
        exact ⟨rfl, G2⟩
      · have r4 : (cmp3 a0 a1 a2 (a0 ++ x) b1 b2 == -1) = false := by rw [r5]; rfl
        have r6 : (cmp3 a0 a1 a2 (a0 ++ x) b1 b2 == 1) = true := by simpa using r5
        clear r5 n0
        go_wp2
        go_ret
        exact ⟨rfl, G2⟩
  · have hxe : x.toList.isEmpty = false := by
      rw [Lib.toList_data]
      cases h : x.data.toList with
      | nil => exact absurd h hx0
      | cons _ _ => rfl
    have hE := cmpB_ext a0 x hx0
    have e1 : (cmp3 a0 a1 a2 (a0 ++ x) b1 b2 == -1) = true := by rw [cmp3_first _ _ _ _ (by rw [hE.1]; decide), hE.1]; rfl
    have e2 : (cmp3 (a0 ++ x) b1 b2 a0 a1 a2 == 1) = true := by rw [cmp3_first _ _ _ _ (by rw [hE.2]; decide), hE.2]; rfl
    clear hE hx0
    go_wp2
    go_ret
    exact ⟨rfl, G1⟩

end Go.Proofs.Qxb6628664a
