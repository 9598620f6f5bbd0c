import Derived.Test.Qxb6628545aPlain
namespace Go.Proofs.Qxb6628545a
open Go.RowKit

/-- a family with one more entry at place n -/
def ins {α : Type} (F : Nat → α) (n : Nat) (x : α) (i : Nat) : α := if i < n then F i else if i = n then x else F (i - 1)

theorem ins_lt {α : Type} (F : Nat → α) {n : Nat} (x : α) {i : Nat} (h : i < n) : ins F n x i = F i := by simp [ins, h]
theorem ins_at {α : Type} (F : Nat → α) (n : Nat) (x : α) : ins F n x n = x := by simp [ins]
theorem ins_gt {α : Type} (F : Nat → α) {n : Nat} (x : α) {i : Nat} (h : n < i) : ins F n x i = F (i - 1) := by
  unfold ins; rw [if_neg (by omega), if_neg (by omega)]

theorem sumZ_ins (Z : Nat → Int) (n : Nat) (x : Int) (m : Nat) : sumZ (ins Z n x) (n + m + 1) = wrap64 (sumZ Z (n + m) + x) := by
  have e1 : sumZ (ins Z n x) n = sumZ Z n := sumZ_congr _ _ n (fun i hi => ins_lt Z x hi)
  rw [show n + m + 1 = (n + 1) + m by omega, sumZ_split, sumZ_split Z n m]
  have e2 : sumZ (fun i => ins Z n x (n + 1 + i)) m = sumZ (fun i => Z (n + i)) m := sumZ_congr _ _ m (fun i hi => by
    show ins Z n x (n + 1 + i) = Z (n + i)
    rw [ins_gt Z x (by omega), show n + 1 + i - 1 = n + i by omega])
  rw [e2]
  show wrap64 (wrap64 (sumZ (ins Z n x) n + ins Z n x n) + _) = _
  rw [e1, ins_at, wrap_add_left, wrap_add_left]
  congr 1
  omega

theorem Filled.step' {w : World} {B n j : Nat} {S : Nat → ByteArray} {Z : Nat → Int} (h : Filled w B n j S Z) (hj : j < n) {s : ByteArray} {z : Int} (hs : S j = s) (hz : Z j = z) :
    Filled ((w.setCell ⟨B, j * 2, none⟩ (.string s)).setCell ⟨B, j * 2 + 1, none⟩ (.int .i64 z)) B n (j + 1) S Z := by
  subst hs; subst hz; exact h.step hj

set_option maxHeartbeats 800000 in
theorem zz5_any (likes at' count : Int) (key : ByteArray) (a : Option Addr) (len cap : Nat) (S : Nat → ByteArray) (Z : Nat → Int) (w : World) (hlen : len ≤ 9223372036854775807) (hS : ∀ i, i < len → (S i).size ≤ 9223372036854775807) (hkey : key.size ≤ 9223372036854775807) (hP : Pairs w a len S Z) :
    Calls Try.prog 5 #[.int .i64 likes, .slice a len cap, .int .i64 at', .string key, .int .i64 count] w fun e w' => SomeBool e ∧ w' = w := by
  by_cases hbig : 1048576 < len
  · go_enter Try.func5, Try.ntmps5
    go_wp2
    go_ret
    exact ⟨⟨_, rfl⟩, rfl⟩
  go_enter Try.func5, Try.ntmps5
  go_wp2
  go_loop [11, 12] (fun n i => ∃ (z : Int) (j : Nat), j ≤ len ∧ 0 ≤ z ∧ z ≤ 1048576 ∧ n = .int .i64 z ∧ i = .int .i64 j) (fun _ i => len - (intOf i).toNat)
  case atStart => exact ⟨len, 0, by omega, by omega, by omega, rfl, rfl⟩
  case round =>
    obtain ⟨z, j, hj, hz0, hz1, rfl, rfl⟩ := hrel
    by_cases hlt : j < len
    · rcases hP with h0 | ⟨b, off, rfl, _, hc⟩
      · omega
      have hcj := (hc j hlt).1
      have hSj := hS j hlt
      clear hc hS
      go_wp2
      · go_ret
        exact ⟨⟨_, rfl⟩, rfl⟩
      · go_ret
        exact ⟨⟨_, rfl⟩, rfl⟩
      · go_round
        case rel => exact ⟨z + (S j).size, j + 1, by omega, by omega, by omega, rfl, by go_num⟩
        case measure => simp [intOf]; omega
    · clear hS hP
      go_wp2
      all_goals
        go_ret
        exact ⟨⟨_, rfl⟩, rfl⟩

set_option maxHeartbeats 1000000 in
/-- insertAt: a new array: the pairs with (key, count) at place n. -/
theorem ins_any (a : Option Addr) (len cap n : Nat) (key : ByteArray) (count : Int) (S : Nat → ByteArray) (Z : Nat → Int) (w : World) (hlen : len ≤ 32768) (hn : n ≤ len) (hP : Pairs w a len S Z) :
    Calls Try.prog 7 #[.slice a len cap, .int .i64 n, .string key, .int .i64 count] w fun e w' => ∃ a', e = .returned (.slice a' (len + 1) (len + 1)) ∧ Pairs w' a' (len + 1) (ins S n key) (ins Z n count) ∧ Below w.heap.size w w' := by
  have hmk := make26 (len + 1) (by omega)
  rw [show ((len + 1 : Nat) : Int) = (len : Int) + 1 by omega] at hmk
  go_enter Try.func7, Try.ntmps7
  go_wp2
  go_loopw [10, 11] (fun j i wr => ∃ k : Nat, k ≤ len + 1 ∧ i = .int .i64 k ∧ j = .int .i64 ((if k ≤ n then k else k - 1 : Nat) : Int) ∧ Filled wr w.heap.size (len + 1) k (ins S n key) (ins Z n count) ∧ Below w.heap.size w wr) (fun _ i _ => len + 1 - (intOf i).toNat)
  case atStart => exact ⟨0, by omega, rfl, by simp, Filled.start _ _ _ _, (Below.refl _ _).alloc (Nat.le_refl _) _⟩
  case round =>
    obtain ⟨k, hk, rfl, rfl, hfill, hbel⟩ := hrel
    by_cases hlt : k ≤ len
    · obtain ⟨v0, hv0⟩ := hfill.has (i := k * 2) (by omega)
      obtain ⟨v1, hv1⟩ := hfill.has (i := k * 2 + 1) (by omega)
      have f0 := hfill.frozen (k * 2)
      have f1 := hfill.frozen (k * 2 + 1)
      rcases Nat.lt_trichotomy k n with hkn | hkn | hkn
      · rcases hP with h0 | ⟨b, off, rfl, hbs, hc⟩
        · omega
        have hcj := (hc k (by omega)).1
        have hdj := (hc k (by omega)).2
        rw [← hbel.cell (by exact hbs)] at hcj hdj
        clear hc
        rw [if_pos (by omega)]
        have hne : ((k : Int) == (n : Int)) = false := beq_eq_false_iff_ne.2 (by omega)
        go_wp2
        go_region
        all_goals go_wp2
        all_goals go_roundw
        case rel =>
          refine ⟨k + 1, by omega, by go_num, by rw [if_pos (by omega)]; go_num, ?_, ?_⟩
          · exact (hfill.step' (by omega) (ins_lt S key hkn) (ins_lt Z count hkn)).drew
          · exact ((hbel.setCell (Nat.le_refl _) _).setCell (Nat.le_refl _) _).drew
        case measure => simp [intOf]; omega
      · subst hkn
        rw [if_pos (by omega)]
        go_wp2
        go_roundw
        case rel =>
          refine ⟨k + 1, by omega, by go_num, by rw [if_neg (by omega)]; go_num, ?_, ?_⟩
          · exact hfill.step' (by omega) (ins_at S k key) (ins_at Z k count)
          · exact (hbel.setCell (Nat.le_refl _) _).setCell (Nat.le_refl _) _
        case measure => simp [intOf]; omega
      · obtain ⟨m, rfl⟩ : ∃ m, k = m + 1 := ⟨k - 1, by omega⟩
        rcases hP with h0 | ⟨b, off, rfl, hbs, hc⟩
        · omega
        have hcj := (hc m (by omega)).1
        have hdj := (hc m (by omega)).2
        rw [← hbel.cell (by exact hbs)] at hcj hdj
        clear hc
        rw [if_neg (by omega), show m + 1 - 1 = m by omega]
        have hne : ((m : Int) + 1 == (n : Int)) = false := beq_eq_false_iff_ne.2 (by omega)
        go_wp2
        go_region
        all_goals go_wp2
        all_goals go_roundw
        case rel =>
          refine ⟨m + 1 + 1, by omega, by go_num, by rw [if_neg (by omega)]; go_num, ?_, ?_⟩
          · exact (hfill.step' (by omega) (ins_gt S key hkn) (ins_gt Z count hkn)).drew
          · exact ((hbel.setCell (Nat.le_refl _) _).setCell (Nat.le_refl _) _).drew
        case measure => simp [intOf]; omega
    · have e : k = len + 1 := by omega
      subst e
      go_wp2
      go_ret
      exact ⟨_, rfl, hfill.pairs, hbel⟩

end Go.Proofs.Qxb6628545a
