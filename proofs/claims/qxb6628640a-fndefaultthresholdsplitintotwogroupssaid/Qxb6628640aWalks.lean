import Derived.Test.Qxb6628640aRows
import Derived.WalkKit
import Derived.ProofKit
import Derived.OpenShut
import Derived.WalkSpells
import Derived.WalkLawsBesides
namespace Go.Proofs.Qxb6628640a
open Go.RowKit

theorem neg_halves (n : Int) (h : n ≤ 0) (h0 : -9223372036854775808 ≤ n) : -4611686018427387904 ≤ n.tdiv 2 ∧ n.tdiv 2 ≤ 0 ∧ -1 ≤ n.tmod 2 ∧ n.tmod 2 ≤ 0 := by
  have e1 : n.tdiv 2 = -((-n) / 2) := by rw [← Int.tdiv_eq_ediv_of_nonneg (by omega), Int.neg_tdiv, Int.neg_neg]
  have e2 : n.tmod 2 = -((-n) % 2) := by rw [← Int.tmod_eq_emod_of_nonneg (by omega), Int.neg_tmod, Int.neg_neg]
  rw [e1, e2]; omega

/-- DefaultThreshold at 2 or less: 2. -/
theorem dt_small (n : Int) (w : World) (h0 : -9223372036854775808 ≤ n) (h2 : n ≤ 2) : Calls Try.prog 5 #[.int .i64 n] w fun e w' => e = .returned (.int .i64 2) ∧ w' = w := by
  rcases Int.lt_or_le n 0 with hn | hn
  · obtain ⟨b1, b2, b3, b4⟩ := neg_halves n (by omega) h0
    generalize hq : n.tdiv 2 = q at *
    generalize hr : n.tmod 2 = r at *
    go_enter Try.func5, Try.ntmps5
    go_wp2
    go_ret
    exact ⟨rfl, rfl⟩
  · go_enter Try.func5, Try.ntmps5
    go_wp2
    go_ret
    exact ⟨rfl, rfl⟩

/-- DefaultThreshold at 3 or more: half of n, rounded up. -/
theorem dt_big (n : Int) (w : World) (h3 : 3 ≤ n) (h1 : n ≤ 9223372036854775807) : Calls Try.prog 5 #[.int .i64 n] w fun e w' => ∃ k, e = .returned (.int .i64 k) ∧ n ≤ 2 * k ∧ 2 * k ≤ n + 1 ∧ w' = w := by
  go_enter Try.func5, Try.ntmps5
  go_wp2
  go_ret
  exact ⟨n / 2 + n % 2, rfl, by omega, by omega, rfl⟩

theorem consec_walk (n : Int) (h0 : -9223372036854775808 ≤ n) (h1 : n ≤ 9223372036854775807) (w : World) :
    Calls Try.prog 3 #[.int .i64 n] w fun e w' => e = .returned (.bool true) ∧ w' = w := by
  by_cases hm : (n == 9223372036854775807) = true
  · go_enter Try.func3, Try.ntmps3
    go_wp2
    go_ret
    exact ⟨rfl, rfl⟩
  have hm' : (n == 9223372036854775807) = false := by simpa using hm
  have hlt : n < 9223372036854775807 := by simp at hm; omega
  clear hm
  by_cases h2 : n ≤ 2
  · by_cases h12 : n ≤ 1
    · go_enter Try.func3, Try.ntmps3
      go_wp2_with fail
      refine (dt_small n _ h0 h2).mono ?_
      rintro e w' ⟨rfl, rfl⟩
      go_wp2_with fail
      refine (dt_small _ _ (by omega) (by omega)).mono ?_
      rintro e w' ⟨rfl, rfl⟩
      go_wp2
      go_ret
      exact ⟨rfl, rfl⟩
    · go_enter Try.func3, Try.ntmps3
      go_wp2_with fail
      refine (dt_small n _ h0 h2).mono ?_
      rintro e w' ⟨rfl, rfl⟩
      go_wp2_with fail
      refine (dt_big _ _ (by omega) (by omega)).mono ?_
      rintro e w' ⟨k, rfl, k1, k2, rfl⟩
      have hk : (k == 2) = true := by simp; omega
      go_wp2
      go_ret
      exact ⟨rfl, rfl⟩
  · go_enter Try.func3, Try.ntmps3
    go_wp2_with fail
    refine (dt_big n _ (by omega) h1).mono ?_
    rintro e w' ⟨k, rfl, k1, k2, rfl⟩
    go_wp2_with fail
    refine (dt_big _ _ (by omega) (by omega)).mono ?_
    rintro e w' ⟨l, rfl, l1, l2, rfl⟩
    have hk : (k + l == n + 1) = true := by simp; omega
    have hd : decide (l - k ≤ 1) = true := decide_eq_true (by omega)
    go_wp2
    go_ret
    exact ⟨rfl, rfl⟩

theorem split_walk (n c : Int) (h0 : -9223372036854775808 ≤ n) (h1 : n ≤ 9223372036854775807) (c0 : -9223372036854775808 ≤ c) (c1 : c ≤ 9223372036854775807) (w : World) :
    Calls Try.prog 4 #[.int .i64 n, .int .i64 c] w fun e w' => e = .returned (.bool true) ∧ w' = w := by
  by_cases h6 : n < 6
  · go_enter Try.func4, Try.ntmps4
    go_wp2
    go_ret
    exact ⟨rfl, rfl⟩
  by_cases h3 : c < 3
  · go_enter Try.func4, Try.ntmps4
    go_wp2
    go_ret
    exact ⟨rfl, rfl⟩
  by_cases hc : n - 3 < c
  · go_enter Try.func4, Try.ntmps4
    go_wp2
    go_ret
    exact ⟨rfl, rfl⟩
  by_cases ho : c % 2 = 1
  · have ho' : (c % 2 == 1) = true := by simpa using ho
    by_cases hp : (n - c) % 2 = 1
    · have hp' : ((n - c) % 2 == 1) = true := by simpa using hp
      have HP : Hid (c % 2 = 1 ∧ (n - c) % 2 = 1) := ⟨ho, hp⟩
      clear ho hp
      go_enter Try.func4, Try.ntmps4
      go_wp2_with fail
      refine (dt_big n _ (by omega) h1).mono ?_
      rintro e w' ⟨k, rfl, k1, k2, rfl⟩
      go_wp2_with fail
      refine (dt_big _ _ (by omega) (by omega)).mono ?_
      rintro e w' ⟨l, rfl, l1, l2, rfl⟩
      go_wp2_with fail
      refine (dt_big _ _ (by omega) (by omega)).mono ?_
      rintro e w' ⟨m, rfl, m1, m2, rfl⟩
      have hk : (l + m == k + 1) = true := by have := HP.out; simp; omega
      have hd : decide (k - (n - k) ≤ 1) = true := decide_eq_true (by omega)
      go_wp2
      go_ret
      exact ⟨rfl, rfl⟩
    · have hp' : ((n - c) % 2 == 1) = false := by simpa using hp
      have HP : Hid (c % 2 = 1 ∧ ¬ (n - c) % 2 = 1) := ⟨ho, hp⟩
      clear ho hp
      go_enter Try.func4, Try.ntmps4
      go_wp2_with fail
      refine (dt_big n _ (by omega) h1).mono ?_
      rintro e w' ⟨k, rfl, k1, k2, rfl⟩
      go_wp2_with fail
      refine (dt_big _ _ (by omega) (by omega)).mono ?_
      rintro e w' ⟨l, rfl, l1, l2, rfl⟩
      go_wp2_with fail
      refine (dt_big _ _ (by omega) (by omega)).mono ?_
      rintro e w' ⟨m, rfl, m1, m2, rfl⟩
      have hk : (l + m == k) = true := by have := HP.out; simp; omega
      have hd : decide (k - (n - k) ≤ 1) = true := decide_eq_true (by omega)
      go_wp2
      go_ret
      exact ⟨rfl, rfl⟩
  · have ho' : (c % 2 == 1) = false := by simpa using ho
    have HP : Hid (¬ c % 2 = 1) := ho
    clear ho
    go_enter Try.func4, Try.ntmps4
    go_wp2_with fail
    refine (dt_big n _ (by omega) h1).mono ?_
    rintro e w' ⟨k, rfl, k1, k2, rfl⟩
    go_wp2_with fail
    refine (dt_big _ _ (by omega) (by omega)).mono ?_
    rintro e w' ⟨l, rfl, l1, l2, rfl⟩
    go_wp2_with fail
    refine (dt_big _ _ (by omega) (by omega)).mono ?_
    rintro e w' ⟨m, rfl, m1, m2, rfl⟩
    have hk : (l + m == k) = true := by have := HP.out; simp; omega
    have hd : decide (k - (n - k) ≤ 1) = true := decide_eq_true (by omega)
    go_wp2
    go_ret
    exact ⟨rfl, rfl⟩

end Go.Proofs.Qxb6628640a
