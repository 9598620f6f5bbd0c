import Derived.Test.Qxb6628545aInsert
import Derived.Deep.RegionWith
namespace Go.Proofs.Qxb6628545a
open Go.RowKit

set_option maxHeartbeats 1000000 in
theorem insert_walk (likes at' count : Int) (key : ByteArray) (a : Option Addr) (len cap : Nat) (S : Nat → ByteArray) (Z : Nat → Int) (w : World) (hlen : len ≤ 9223372036854775807) (h0 : a = none → len = 0 ∧ cap = 0)
    (hS : ∀ i, i < len → (S i).size ≤ 9223372036854775807) (hkey : key.size ≤ 9223372036854775807) (hP : Pairs w a len S Z) :
    Calls Try.prog 3 #[.int .i64 likes, .slice a len cap, .int .i64 at', .string key, .int .i64 count] w fun e w' => e = .returned (.bool true) ∧ Below w.heap.size w w' := by
  have hzz := zz5_any likes at' count key a len cap S Z w hlen hS hkey hP
  go_enter Try.func3, Try.ntmps3
  go_wp2_with fail
  refine hzz.mono ?_
  rintro e w' ⟨⟨r, rfl⟩, rfl⟩
  clear hzz
  cases r
  · go_wp2
    go_ret
    exact ⟨rfl, Below.refl _ _⟩
  by_cases hbig : 32768 < len
  · go_wp2
    go_ret
    exact ⟨rfl, Below.refl _ _⟩
  by_cases hkb : 1048576 < key.size
  · go_wp2
    go_ret
    exact ⟨rfl, Below.refl _ _⟩
  go_wp2
  go_loop [11, 12] (fun n i => ∃ (z : Int) (j : Nat), j ≤ len ∧ n = .int .i64 z ∧ i = .int .i64 j) (fun _ i => len - (intOf i).toNat)
  case atStart => exact ⟨_, 0, by omega, rfl, rfl⟩
  case round =>
    obtain ⟨z, j, hj, rfl, rfl⟩ := hrel
    by_cases hlt : j < len
    · rcases hP with h0 | ⟨b, off, rfl, _, hc⟩
      · omega
      have hcj := (hc j hlt).1
      have hSj := hS j hlt
      clear hc hS h0
      go_wp2
      · go_ret
        exact ⟨rfl, Below.refl _ _⟩
      · go_round
        case rel => exact ⟨_, j + 1, by omega, rfl, by go_num⟩
        case measure => simp [intOf]; omega
    · clear hS
      by_cases hbz : 1048576 < z
      · go_wp2
        go_ret
        exact ⟨rfl, Below.refl _ _⟩
      by_cases hk0 : at' < 0
      · go_wp2
        go_ret
        exact ⟨rfl, Below.refl _ _⟩
      by_cases hkl : (len : Int) < at'
      · go_wp2
        go_ret
        exact ⟨rfl, Below.refl _ _⟩
      obtain ⟨n, rfl⟩ := Int.eq_ofNat_of_zero_le (show 0 ≤ at' by omega)
      have hn : n ≤ len := by omega
      go_wp2_with fail
      refine (tr_any a len cap S Z _ (by omega) h0 hP).mono ?_
      rintro e w1 ⟨a1, rfl, hP1, hb1⟩
      clear h0
      have hPi := (hP.below hb1 (Nat.le_refl _)).below ((Below.refl w1.heap.size w1).alloc (Nat.le_refl _) (.cells #[.int .i64 likes, .slice a1 len len] 29)) (Nat.le_refl _)
      go_wp2_with fail
      refine (ins_any a len cap n key count S Z _ (by omega) hn hPi).mono ?_
      rintro e w2 ⟨a2, rfl, hP2, hb2⟩
      go_wp2
      have hs1 := hb1.size
      have hs2 : w1.heap.size + 1 ≤ w2.heap.size := by have := hb2.size; simpa using this
      have hbn : Below w2.heap.size w2 (w2.alloc (.cells #[.int .i64 likes, .slice a2 (len + 1) (len + 1)] 29)) := (Below.refl _ _).alloc (Nat.le_refl _) _
      have hba : Below w1.heap.size w1 (w1.alloc (.cells #[.int .i64 likes, .slice a1 len len] 29)) := (Below.refl _ _).alloc (Nat.le_refl _) _
      have hbel : Below w'.heap.size w' (w2.alloc (.cells #[.int .i64 likes, .slice a2 (len + 1) (len + 1)] 29)) :=
        ((hb1.trans (hba.mono (by omega))).trans (hb2.mono (by simp; omega))).trans (hbn.mono (by omega))
      have hPb := ((hP1.below hba (Nat.le_refl _)).below hb2 (Nat.le_refl _)).below hbn (Nat.le_refl _)
      have hPg := hP2.below hbn (Nat.le_refl _)
      have g0 : (w2.alloc (.cells #[.int .i64 likes, .slice a2 (len + 1) (len + 1)] 29)).cell? ⟨w2.heap.size, 0, none⟩ = some (.int .i64 likes) := by go_simp
      have g1 : (w2.alloc (.cells #[.int .i64 likes, .slice a2 (len + 1) (len + 1)] 29)).cell? ⟨w2.heap.size, 1, none⟩ = some (.slice a2 (len + 1) (len + 1)) := by go_simp
      have b0 : (w2.alloc (.cells #[.int .i64 likes, .slice a2 (len + 1) (len + 1)] 29)).cell? ⟨w1.heap.size, 0, none⟩ = some (.int .i64 likes) := by
        rw [hbn.cell (by show w1.heap.size < _; omega), hb2.cell (by simp)]; go_simp
      have b1 : (w2.alloc (.cells #[.int .i64 likes, .slice a2 (len + 1) (len + 1)] 29)).cell? ⟨w1.heap.size, 1, none⟩ = some (.slice a1 len len) := by
        rw [hbn.cell (by show w1.heap.size < _; omega), hb2.cell (by simp)]; go_simp
      have l1 : w1.heap.size < (w2.alloc (.cells #[.int .i64 likes, .slice a2 (len + 1) (len + 1)] 29)).heap.size := by simp; omega
      have l2 : w2.heap.size < (w2.alloc (.cells #[.int .i64 likes, .slice a2 (len + 1) (len + 1)] 29)).heap.size := by simp
      clear hba hbn hb1 hb2 hP1 hP2 hP hPi hs1 hs2
      generalize w2.alloc (.cells #[.int .i64 likes, .slice a2 (len + 1) (len + 1)] 29) = W at *
      generalize w1.heap.size = B1 at *
      generalize w2.heap.size = B2 at *
      have E2 : Hid ((sumZ (ins Z n count) (len + 1) == IntKind.i64.wrap (sumZ Z len + count)) = true) := by
        have := sumZ_ins Z n count (len - n)
        rw [show n + (len - n) = len by omega] at this
        unfold Hid
        rw [this, IntKind.wrap_i64]; unfold wrap64; simp
      go_region_with (first
        | (go_at_call_of 8 (a2); refine (rc_any likes a2 (len + 1) (len + 1) (ins S n key) (ins Z n count) _ (by omega) ?_).mono ?_; exact hPg.below ((Below.refl _ _).drew) (Nat.le_refl _); rintro e w3 ⟨rfl, hb3⟩; have q0 : w3.cell? ⟨B1, 0, none⟩ = some (.int .i64 likes) := (hb3.cell (by exact l1)).trans b0; have q1 : w3.cell? ⟨B1, 1, none⟩ = some (.slice a1 len len) := (hb3.cell (by exact l1)).trans b1)
        | (go_at_call_of 8 (a1); refine (rc_any likes a1 len len S Z _ (by omega) ?_).mono ?_; exact (hPb.below ((Below.refl _ _).drew) (Nat.le_refl _)).below hb3 (Nat.le_refl _); rintro e w4 ⟨rfl, hb4⟩))
      all_goals go_wp2
      all_goals go_ret
      all_goals
        refine ⟨?_, ?_⟩
        · exact Eq.trans (b := Ending.returned (.bool (sumZ (ins Z n count) (len + 1) == IntKind.i64.wrap (sumZ Z len + count)))) rfl (by rw [E2.out])
        · have h3 := hb3.size
          exact (hbel.drew.trans (hb3.mono (by exact hbel.size))).trans (hb4.mono (by have := hbel.size; exact Nat.le_trans this h3))

end Go.Proofs.Qxb6628545a
