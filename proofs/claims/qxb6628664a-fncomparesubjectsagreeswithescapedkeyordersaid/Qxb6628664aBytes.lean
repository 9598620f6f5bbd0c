import Derived.Test.Qxb6628664aKey
namespace Go.Proofs.Qxb6628664a
open Go.RowKit
open Go.Lib (compareBytes)

theorem make24 (c : Int) (n : Nat) (h : c = n) (hn : n ≤ 281474976710656) (w : World) :
    (Instr.makeSlice 24 (.int .i64 0) (.int .i64 c)).run Try.prog w = .ok (.slice (some ⟨w.heap.size, 0, none⟩) 0 n) (w.alloc (.cells (madeCells #[.int .u8 0] n) 5)) := by
  subst h
  obtain ⟨i, hi, hz0, hz1, hz2⟩ := info_parts Try.info5
  have hr := run_make (P := Try.prog) w 24 5 i _ Try.underlying24 hi hz0 .i64 .i64 0 n (by omega) (by omega) (by rw [hz2]; omega) (by omega)
  simp only [Int.toNat_natCast, hz1, Nat.mul_one] at hr
  exact hr

/-- the key of a triple -/
def key (a b c : List UInt8) : List Int := esc a ++ esc b ++ esc c

theorem esc_len (l : List UInt8) : (esc l).length ≤ 2 * l.length + 2 := by
  unfold esc; rw [List.length_append]; have := eb_len l; simp only [List.length_cons, List.length_nil]; omega

/-- an owned row, written out -/
theorem Own.form {w : World} {base : Nat} {v : Value} {L : List Int} {n : Nat} (h : Own w base v L) (hn : L.length = n) (h0 : 0 < n) :
    ∃ g cap, v = .slice (some ⟨g, 0, none⟩) n cap ∧ base ≤ g ∧ g < w.heap.size ∧ n ≤ cap ∧ cap ≤ 9223372036854775807 ∧ ∀ i, i < n → w.cell? ⟨g, i, none⟩ = some (.int .u8 (L.getD i 0)) := by
  subst hn
  obtain ⟨h1, h2⟩ := h
  rcases h2 with ⟨_, h2⟩ | ⟨g, cap, cur, rfl, hb, hg, hc, hm, hs, ht⟩
  · omega
  · refine ⟨g, cap, rfl, hb, (Array.getElem?_eq_some_iff.1 hg).1, hc, hm, fun i hi => ?_⟩
    have e := congrArg (fun l => l[i]?) ht
    simp only [List.getElem?_take, Nat.mul_one, hi, if_true] at e
    simp only [World.cell?, hg]
    rw [← Array.getElem?_toList, e]
    simp [List.getD_eq_getElem?_getD, hi]

set_option maxHeartbeats 1000000 in
/-- zzKey: a new slice with the key's bytes. -/
theorem key_any (a b c : ByteArray) (w : World) (ha : a.size ≤ 65536) (hb : b.size ≤ 65536) (hc : c.size ≤ 65536) :
    Calls Try.prog 7 #[.string a, .string b, .string c] w fun e w' => ∃ g cap, e = .returned (.slice (some ⟨g, 0, none⟩) (key a.data.toList b.data.toList c.data.toList).length cap) ∧ w.heap.size ≤ g ∧ g < w'.heap.size ∧
      (∀ i, i < (key a.data.toList b.data.toList c.data.toList).length → w'.cell? ⟨g, i, none⟩ = some (.int .u8 ((key a.data.toList b.data.toList c.data.toList).getD i 0))) ∧ Below w.heap.size w w' := by
  have la := esc_len a.data.toList
  have lb := esc_len b.data.toList
  have lc := esc_len c.data.toList
  have sa : a.data.toList.length = a.size := by simp
  have sb : b.data.toList.length = b.size := by simp
  rw [sa] at la
  rw [sb] at lb
  have hmk := make24 (2 * ((a.size : Int) + b.size + c.size) + 6) (2 * (a.size + b.size + c.size) + 6) (by omega) (by omega)
  have HL : Hid ((esc a.data.toList).length ≤ 2 * a.size + 2 ∧ (esc b.data.toList).length ≤ 2 * b.size + 2) := ⟨la, lb⟩
  clear la lb lc sa sb
  go_enter Try.func7, Try.ntmps7
  go_wp2_with fail
  refine (esc_any w.heap.size _ [] a _ (by simp only [List.length_nil]; omega) (World.ownsRow_made _ _ _ (Nat.le_refl _) (by unfold maxLen; omega) (by rw [size_madeCells, Nat.mul_one])) (by simp)).mono ?_
  rintro e w1 ⟨v1, rfl, hown1, hb1⟩
  clear hmk
  have hb1 : Below w.heap.size w w1 := ((Below.refl w.heap.size w).alloc (Nat.le_refl _) _).trans hb1
  have hown1 : Own w1 w.heap.size v1 (esc a.data.toList) := hown1
  go_wp2_with fail
  refine (esc_any w.heap.size v1 _ b _ (by have := HL.out; omega) hown1 hb1.size).mono ?_
  rintro e w2 ⟨v2, rfl, hown2, hb2⟩
  have hb2 := hb1.trans hb2
  go_wp2_with fail
  refine (esc_any w.heap.size v2 _ c _ (by have := HL.out; rw [List.length_append]; omega) hown2 hb2.size).mono ?_
  rintro e w3 ⟨v3, rfl, hown3, hb3⟩
  have hb3 := hb2.trans hb3
  have hown3 : Own w3 w.heap.size v3 (key a.data.toList b.data.toList c.data.toList) := hown3
  obtain ⟨g, cap, hv, h1, h2, h3, h4, h5⟩ := hown3.form (n := (key a.data.toList b.data.toList c.data.toList).length) rfl (by unfold key esc; simp only [List.length_append, List.length_cons]; omega)
  clear hown1 hown2 hown3
  go_wp2
  go_ret
  exact ⟨g, cap, by rw [← hv]; rfl, h1, h2, h5, hb3⟩

/-- the byte-wise order of two lists -/
def cmpI : List Int → List Int → Int
  | [], [] => 0
  | [], _ :: _ => -1
  | _ :: _, [] => 1
  | a :: l, b :: r => if a < b then -1 else if b < a then 1 else cmpI l r

theorem drop_at (A : List Int) (j : Nat) (h : j < A.length) : A.drop j = A.getD j 0 :: A.drop (j + 1) := by
  rw [List.drop_eq_getElem_cons h]; simp [List.getD_eq_getElem?_getD, h]

theorem cmpI_cons (a b : Int) (l r : List Int) : cmpI (a :: l) (b :: r) = if a < b then -1 else if b < a then 1 else cmpI l r := rfl

theorem cmpI_short (A B : List Int) (n : Nat) (hA : A.length ≤ n) (hB : n < B.length) : cmpI (A.drop n) (B.drop n) = -1 := by
  rw [List.drop_of_length_le hA, drop_at B n hB]; rfl

theorem cmpI_long (A B : List Int) (n : Nat) (hA : n < A.length) (hB : B.length ≤ n) : cmpI (A.drop n) (B.drop n) = 1 := by
  rw [List.drop_of_length_le hB, drop_at A n hA]; rfl

theorem cmpI_end (A B : List Int) (n : Nat) (hA : A.length ≤ n) (hB : B.length ≤ n) : cmpI (A.drop n) (B.drop n) = 0 := by
  rw [List.drop_of_length_le hB, List.drop_of_length_le hA]; rfl

theorem drews {w wr : World} {n m : Nat} (h : Hid (wr = w.drewN n)) : ∃ k, wr.drewN m = w.drewN k := ⟨n + m, by rw [h.out, World.drewN_drewN]⟩

theorem drews2 {w wr : World} {n m m' : Nat} (h : Hid (wr = w.drewN n)) : ∃ k, (wr.drewN m).drewN m' = w.drewN k := ⟨n + (m + m'), by rw [h.out, World.drewN_drewN, World.drewN_drewN]⟩

set_option maxHeartbeats 1000000 in
/-- zzCompareBytes: the byte-wise order. -/
theorem cb_any (g g' la lb cap cap' : Nat) (A B : List Int) (w : World) (hA : A.length = la) (hB : B.length = lb) (hla : la ≤ 1073741824) (hlb : lb ≤ 1073741824)
    (cA : ∀ i, i < la → w.cell? ⟨g, i, none⟩ = some (.int .u8 (A.getD i 0))) (cB : ∀ i, i < lb → w.cell? ⟨g', i, none⟩ = some (.int .u8 (B.getD i 0))) :
    Calls Try.prog 6 #[.slice (some ⟨g, 0, none⟩) la cap, .slice (some ⟨g', 0, none⟩) lb cap'] w fun e w' => e = .returned (.int .i64 (cmpI A B)) ∧ ∃ n, w' = w.drewN n := by
  have HA : Hid (A.length = la ∧ B.length = lb) := ⟨hA, hB⟩
  have HC : Hid (∀ i, i < la → w.cell? ⟨g, i, none⟩ = some (.int .u8 (A.getD i 0))) := cA
  have HD : Hid (∀ i, i < lb → w.cell? ⟨g', i, none⟩ = some (.int .u8 (B.getD i 0))) := cB
  clear hA hB cA cB
  by_cases hlt : lb < la
  · go_enter Try.func6, Try.ntmps6
    go_wp2
    go_loopw [6] (fun i wr => ∃ j : Nat, j ≤ lb ∧ i = .int .i64 j ∧ cmpI A B = cmpI (A.drop j) (B.drop j) ∧ ∃ n, wr = w.drewN n) (fun i _ => lb - (intOf i).toNat)
    case atStart => exact ⟨0, by omega, rfl, by simp, 0, rfl⟩
    case round =>
      obtain ⟨j, hj, rfl, hcmp, n, hwr⟩ := hrel
      have HR : Hid (cmpI A B = cmpI (A.drop j) (B.drop j)) := hcmp
      have HW : Hid (wr = w.drewN n) := hwr
      clear hcmp
      by_cases hjm : j < lb
      · obtain ⟨x, hx⟩ : ∃ x, x = A.getD j 0 := ⟨_, rfl⟩
        obtain ⟨y, hy⟩ : ∃ y, y = B.getD j 0 := ⟨_, rfl⟩
        have c1 : wr.cell? ⟨g, j, none⟩ = some (.int .u8 x) := by rw [hwr, hx]; simpa using HC.out j (by omega)
        have c2 : wr.cell? ⟨g', j, none⟩ = some (.int .u8 y) := by rw [hwr, hy]; simpa using HD.out j (by omega)
        have HS : Hid (cmpI A B = if x < y then -1 else if y < x then 1 else cmpI (A.drop (j + 1)) (B.drop (j + 1))) := by
          unfold Hid; rw [HR.out, drop_at A j (by rw [HA.out.1]; omega), drop_at B j (by rw [HA.out.2]; omega), cmpI_cons, hx, hy]
        have l1 : (j : Int) < (la : Int) := by omega
        have l2 : (j : Int) < (lb : Int) := by omega
        clear hwr hx hy HR
        by_cases hxy : x < y
        · have HE : Hid (cmpI A B = -1) := by unfold Hid; rw [HS.out, if_pos hxy]
          go_wp2
          go_quiet (fail)
          go_wp2
          go_ret
          exact ⟨by rw [HE.out]; rfl, drews HW⟩
        · by_cases hyx : y < x
          · have HE : Hid (cmpI A B = 1) := by unfold Hid; rw [HS.out, if_neg hxy, if_pos hyx]
            go_wp2
            go_quiet (fail)
            go_wp2
            go_quiet (fail)
            go_wp2
            go_ret
            exact ⟨by rw [HE.out]; rfl, drews2 HW⟩
          · have HE : Hid (cmpI A B = cmpI (A.drop (j + 1)) (B.drop (j + 1))) := by unfold Hid; rw [HS.out, if_neg hxy, if_neg hyx]
            go_wp2
            go_quiet (fail)
            go_wp2
            go_quiet (fail)
            go_wp2
            go_roundw
            case rel => exact ⟨j + 1, by omega, by go_num, HE.out, drews HW⟩
            case measure => simp [intOf]; omega
      · have ej : j = lb := by omega
        have HA1 := HA.out.1
        have HA2 := HA.out.2
        rw [ej] at HR
        have HE : Hid (cmpI A B = 1) := by unfold Hid; rw [HR.out]; exact cmpI_long _ _ _ (by omega) (by omega)
        clear HA1 HA2 HR hwr
        go_wp2
        go_ret
        exact ⟨by rw [HE.out]; rfl, n, HW.out⟩
  · go_enter Try.func6, Try.ntmps6
    go_wp2
    go_loopw [6] (fun i wr => ∃ j : Nat, j ≤ la ∧ i = .int .i64 j ∧ cmpI A B = cmpI (A.drop j) (B.drop j) ∧ ∃ n, wr = w.drewN n) (fun i _ => la - (intOf i).toNat)
    case atStart => exact ⟨0, by omega, rfl, by simp, 0, rfl⟩
    case round =>
      obtain ⟨j, hj, rfl, hcmp, n, hwr⟩ := hrel
      have HR : Hid (cmpI A B = cmpI (A.drop j) (B.drop j)) := hcmp
      have HW : Hid (wr = w.drewN n) := hwr
      clear hcmp
      by_cases hjm : j < la
      · obtain ⟨x, hx⟩ : ∃ x, x = A.getD j 0 := ⟨_, rfl⟩
        obtain ⟨y, hy⟩ : ∃ y, y = B.getD j 0 := ⟨_, rfl⟩
        have c1 : wr.cell? ⟨g, j, none⟩ = some (.int .u8 x) := by rw [hwr, hx]; simpa using HC.out j (by omega)
        have c2 : wr.cell? ⟨g', j, none⟩ = some (.int .u8 y) := by rw [hwr, hy]; simpa using HD.out j (by omega)
        have HS : Hid (cmpI A B = if x < y then -1 else if y < x then 1 else cmpI (A.drop (j + 1)) (B.drop (j + 1))) := by
          unfold Hid; rw [HR.out, drop_at A j (by rw [HA.out.1]; omega), drop_at B j (by rw [HA.out.2]; omega), cmpI_cons, hx, hy]
        have l1 : (j : Int) < (la : Int) := by omega
        have l2 : (j : Int) < (lb : Int) := by omega
        clear hwr hx hy HR
        by_cases hxy : x < y
        · have HE : Hid (cmpI A B = -1) := by unfold Hid; rw [HS.out, if_pos hxy]
          go_wp2
          go_quiet (fail)
          go_wp2
          go_ret
          exact ⟨by rw [HE.out]; rfl, drews HW⟩
        · by_cases hyx : y < x
          · have HE : Hid (cmpI A B = 1) := by unfold Hid; rw [HS.out, if_neg hxy, if_pos hyx]
            go_wp2
            go_quiet (fail)
            go_wp2
            go_quiet (fail)
            go_wp2
            go_ret
            exact ⟨by rw [HE.out]; rfl, drews2 HW⟩
          · have HE : Hid (cmpI A B = cmpI (A.drop (j + 1)) (B.drop (j + 1))) := by unfold Hid; rw [HS.out, if_neg hxy, if_neg hyx]
            go_wp2
            go_quiet (fail)
            go_wp2
            go_quiet (fail)
            go_wp2
            go_roundw
            case rel => exact ⟨j + 1, by omega, by go_num, HE.out, drews HW⟩
            case measure => simp [intOf]; omega
      · have ej : j = la := by omega
        have HA1 := HA.out.1
        have HA2 := HA.out.2
        rw [ej] at HR
        by_cases hs : la < lb
        · have HE : Hid (cmpI A B = -1) := by unfold Hid; rw [HR.out]; exact cmpI_short _ _ _ (by omega) (by omega)
          clear HA1 HA2 HR hwr
          go_wp2
          go_ret
          exact ⟨by rw [HE.out]; rfl, n, HW.out⟩
        · have HE : Hid (cmpI A B = 0) := by unfold Hid; rw [HR.out]; exact cmpI_end _ _ _ (by omega) (by omega)
          clear HA1 HA2 HR hwr
          go_wp2
          go_ret
          exact ⟨by rw [HE.out]; rfl, n, HW.out⟩

end Go.Proofs.Qxb6628664a
