import Derived.Test.Qxb6628545aPlain
namespace Go.Proofs.Qxb6628545a
open Go.RowKit

set_option maxHeartbeats 1000000 in
theorem steps_walk (likes k : Int) (a : Option Addr) (len cap : Nat) (S : Nat → ByteArray) (Z : Nat → Int) (w : World) (hlen : len ≤ 9223372036854775807) (h0 : a = none → len = 0 ∧ cap = 0)
    (hS : ∀ i, i < len → (S i).size ≤ 9223372036854775807) (hZ : ∀ i, i < len → -9223372036854775808 ≤ Z i ∧ Z i ≤ 9223372036854775807) (hP : Pairs w a len S Z) :
    Calls Try.prog 4 #[.int .i64 likes, .slice a len cap, .int .i64 k] w fun e w' => e = .returned (.bool true) ∧ Below w.heap.size w w' := by
  have hzz := zz9_any likes k a len cap S Z w hlen hS hP
  go_enter Try.func4, Try.ntmps4
  go_wp2_with fail
  refine hzz.mono ?_
  rintro e w' ⟨⟨r, rfl⟩, rfl⟩
  cases r
  · go_wp2
    go_ret
    exact ⟨rfl, Below.refl _ _⟩
  by_cases hbig : 32768 < len
  · go_wp2
    go_ret
    exact ⟨rfl, Below.refl _ _⟩
  go_wp2
  go_loop [7, 8] (fun n i => ∃ (z : Int) (j : Nat), j ≤ len ∧ n = .int .i64 z ∧ i = .int .i64 j) (fun _ i => len - (intOf i).toNat)
  case atStart => exact ⟨_, 0, by omega, rfl, rfl⟩
  case round =>
    obtain ⟨z, j, hj, rfl, rfl⟩ := hrel
    by_cases hlt : j < len
    · rcases hP with h0 | ⟨b, off, rfl, _, hc⟩
      · omega
      have hcj := (hc j hlt).1
      have hSj := hS j hlt
      clear hc hS hzz hZ h0
      go_wp2
      · go_ret
        exact ⟨rfl, Below.refl _ _⟩
      · go_round
        case rel => exact ⟨_, j + 1, by omega, rfl, by go_num⟩
        case measure => simp [intOf]; omega
    · clear hzz hS
      by_cases hbz : 1048576 < z
      · go_wp2
        go_ret
        exact ⟨rfl, Below.refl _ _⟩
      by_cases hk0 : k < 0
      · go_wp2
        go_ret
        exact ⟨rfl, Below.refl _ _⟩
      by_cases hkl : (len : Int) ≤ k
      · go_wp2
        go_ret
        exact ⟨rfl, Below.refl _ _⟩
      obtain ⟨kn, rfl⟩ := Int.eq_ofNat_of_zero_le (show 0 ≤ k by omega)
      have hkn : kn < len := by omega
      have hZk := hZ kn hkn
      clear hZ
      go_wp2_with fail
      refine (tr_any a len cap S Z _ (by omega) h0 hP).mono ?_
      rintro e w1 ⟨a', rfl, hP1, hb1⟩
      clear h0
      have hP1' := hP1
      rcases hP1' with h0 | ⟨b1, off1, rfl, hbs1, _⟩
      · omega
      go_wp2_with fail
      refine (rc_any likes _ len len S Z _ (by omega) hP1).mono ?_
      rintro e w2 ⟨rfl, hb2⟩
      go_wp2_with fail
      refine (rc_any likes _ kn len S Z _ (by omega) ((hP1.below hb2 (Nat.le_refl _)).take (by omega))).mono ?_
      rintro e w3 ⟨rfl, hb3⟩
      have hP3 := (hP1.below hb2 (Nat.le_refl _)).below hb3 (Nat.le_refl _)
      go_wp2_with fail
      refine (rc_any likes _ (len - kn) (len - kn) (fun i => S (kn + i)) (fun i => Z (kn + i)) _ (by omega) (hP3.drop hkn)).mono ?_
      rintro e w4 ⟨rfl, hb4⟩
      have hP4 := hP3.below hb4 (Nat.le_refl _)
      go_wp2_with fail
      refine (rc_any likes _ (kn + 1) len S Z _ (by omega) (hP4.take (by omega))).mono ?_
      rintro e w5 ⟨rfl, hb5⟩
      have hs1 := hb1.size
      have hs2 := hb2.size
      have hs3 := hb3.size
      have hs4 := hb4.size
      have hbel : Below w'.heap.size w' w5 := (((hb1.trans (hb2.mono (by omega))).trans (hb3.mono (by omega))).trans (hb4.mono (by omega))).trans (hb5.mono (by omega))
      rcases hP with h0 | ⟨b, off, rfl, hbs, hc⟩
      · omega
      have hck := (hc kn hkn).2
      rw [← hbel.cell (by exact hbs)] at hck
      have e1 : (sumZ Z len == wrap64 (sumZ Z kn + sumZ (fun i => Z (kn + i)) (len - kn))) = true := by
        rw [← sumZ_split, show kn + (len - kn) = len by omega]; simp
      have e2 : (wrap64 (sumZ Z (kn + 1) - sumZ Z kn) == Z kn) = true := by
        rw [sumZ_step Z kn hZk.1 hZk.2]; simp
      clear hs1 hs2 hs3 hs4 hc hb1 hb2 hb3 hb4 hb5 hP1 hP3 hP4
      go_wp2
      go_ret
      exact ⟨by first | rfl | simp [e1, e2], hbel⟩

end Go.Proofs.Qxb6628545a
