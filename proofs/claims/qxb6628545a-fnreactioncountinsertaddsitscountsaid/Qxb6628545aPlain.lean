import Derived.Test.Qxb6628545aMake
namespace Go.Proofs.Qxb6628545a
open Go.RowKit

theorem sumZ_wf (Z : Nat → Int) : ∀ n, -9223372036854775808 ≤ sumZ Z n ∧ sumZ Z n ≤ 9223372036854775807
  | 0 => by simp [sumZ]
  | n + 1 => by simp only [sumZ, wrap64]; omega

theorem wrap_add_left (a b : Int) : wrap64 (wrap64 a + b) = wrap64 (a + b) := by unfold wrap64; omega
theorem wrap_add_right (a b : Int) : wrap64 (a + wrap64 b) = wrap64 (a + b) := by unfold wrap64; omega

theorem sumZ_split (Z : Nat → Int) (k : Nat) : ∀ m, sumZ Z (k + m) = wrap64 (sumZ Z k + sumZ (fun i => Z (k + i)) m)
  | 0 => by
    have h := sumZ_wf Z k
    simp only [Nat.add_zero, sumZ, wrap64]; omega
  | m + 1 => by
    show wrap64 (sumZ Z (k + m) + Z (k + m)) = wrap64 (sumZ Z k + wrap64 (sumZ (fun i => Z (k + i)) m + Z (k + m)))
    rw [sumZ_split Z k m, wrap_add_left, wrap_add_right, Int.add_assoc]

theorem sumZ_step (Z : Nat → Int) (k : Nat) (h0 : -9223372036854775808 ≤ Z k) (h1 : Z k ≤ 9223372036854775807) : wrap64 (sumZ Z (k + 1) - sumZ Z k) = Z k := by
  show wrap64 (wrap64 (sumZ Z k + Z k) - sumZ Z k) = Z k
  unfold wrap64; omega

theorem sumZ_congr (Z Z' : Nat → Int) : ∀ n, (∀ i, i < n → Z i = Z' i) → sumZ Z n = sumZ Z' n
  | 0, _ => rfl
  | n + 1, h => by
    show wrap64 (sumZ Z n + Z n) = wrap64 (sumZ Z' n + Z' n)
    rw [sumZ_congr Z Z' n (fun i hi => h i (by omega)), h n (by omega)]

theorem Pairs.take {w : World} {a : Option Addr} {len : Nat} {S : Nat → ByteArray} {Z : Nat → Int} (h : Pairs w a len S Z) {k : Nat} (hk : k ≤ len) : Pairs w a k S Z := by
  rcases h with h | ⟨b, off, ha, hb, hc⟩
  · exact .inl (by omega)
  · exact .inr ⟨b, off, ha, hb, fun i hi => hc i (by omega)⟩

theorem Pairs.drop {w : World} {b off len : Nat} {S : Nat → ByteArray} {Z : Nat → Int} (h : Pairs w (some ⟨b, off, none⟩) len S Z) {k : Nat} (hk : k < len) :
    Pairs w (some ⟨b, off + k * 2, none⟩) (len - k) (fun i => S (k + i)) (fun i => Z (k + i)) := by
  rcases h with h | ⟨b', off', ha, hb, hc⟩
  · omega
  · simp only [Option.some.injEq, Addr.mk.injEq, and_true] at ha
    obtain ⟨rfl, rfl⟩ := ha
    refine .inr ⟨b, off + k * 2, rfl, hb, fun i hi => ?_⟩
    have := hc (k + i) (by omega)
    rw [show off + k * 2 + i * 2 = off + (k + i) * 2 from by omega]
    exact this

end Go.Proofs.Qxb6628545a
