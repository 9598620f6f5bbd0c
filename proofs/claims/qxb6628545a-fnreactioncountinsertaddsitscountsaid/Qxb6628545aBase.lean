import Derived.Test.Qxb6628545aRows
import Derived.WalkKit
import Derived.ProofKit
import Derived.WalkSpells
import Derived.WalkLawsBesides
import Derived.Below
namespace Go.Proofs.Qxb6628545a
open Go.RowKit

/-- What the walks are told of a slice of pairs (a string, an int): it is empty; or it leads to its cells, two an element. -/
def Pairs (w : World) (a : Option Addr) (len : Nat) (S : Nat → ByteArray) (Z : Nat → Int) : Prop :=
  len = 0 ∨ ∃ b off, a = some ⟨b, off, none⟩ ∧ b < w.heap.size ∧ ∀ i, i < len → w.cell? ⟨b, off + i * 2, none⟩ = some (.string (S i)) ∧ w.cell? ⟨b, off + i * 2 + 1, none⟩ = some (.int .i64 (Z i))

theorem Pairs.below {B : Nat} {w w' : World} {a : Option Addr} {len : Nat} {S : Nat → ByteArray} {Z : Nat → Int} (h : Pairs w a len S Z) (hb : Below B w w') (hB : w.heap.size ≤ B) : Pairs w' a len S Z := by
  rcases h with h | ⟨b, off, ha, hlt, hc⟩
  · exact .inl h
  · refine .inr ⟨b, off, ha, Nat.lt_of_lt_of_le hlt hb.size, fun i hi => ?_⟩
    rw [hb.cell (by show b < B; omega), hb.cell (by show b < B; omega)]
    exact hc i hi

/-- It answers some bool. -/
def SomeBool (e : Ending) : Prop := ∃ r : Bool, e = .returned (.bool r)

set_option maxHeartbeats 400000 in
/-- zzBytes of the law on prefixes: it answers some bool, and turns nothing. -/
theorem zz9_any (likes k : Int) (a : Option Addr) (len cap : Nat) (S : Nat → ByteArray) (Z : Nat → Int) (w : World) (hlen : len ≤ 9223372036854775807) (hS : ∀ i, i < len → (S i).size ≤ 9223372036854775807) (hP : Pairs w a len S Z) :
    Calls Try.prog 9 #[.int .i64 likes, .slice a len cap, .int .i64 k] w fun e w' => SomeBool e ∧ w' = w := by
  by_cases hbig : 1048576 < len
  · go_enter Try.func9, Try.ntmps9
    go_wp2
    go_ret
    exact ⟨⟨_, rfl⟩, rfl⟩
  go_enter Try.func9, Try.ntmps9
  go_wp2
  go_loop [7, 8] (fun n i => ∃ (z : Int) (j : Nat), j ≤ len ∧ 0 ≤ z ∧ z ≤ 1048576 ∧ n = .int .i64 z ∧ i = .int .i64 j) (fun _ i => len - (intOf i).toNat)
  case atStart => exact ⟨len, 0, by omega, by omega, by omega, rfl, rfl⟩
  case round =>
    obtain ⟨z, j, hj, hz0, hz1, rfl, rfl⟩ := hrel
    by_cases hlt : j < len
    · rcases hP with h0 | ⟨b, off, rfl, _, hc⟩
      · omega
      have hcj := (hc j hlt).1
      have hSj := hS j hlt
      clear hc hS
      go_wp2
      · go_ret
        exact ⟨⟨_, rfl⟩, rfl⟩
      · go_ret
        exact ⟨⟨_, rfl⟩, rfl⟩
      · go_round
        case rel => exact ⟨z + (S j).size, j + 1, by omega, by omega, by omega, rfl, by go_num⟩
        case measure => simp [intOf]; omega
    · go_wp2
      go_ret
      exact ⟨⟨_, rfl⟩, rfl⟩

/-- the sum of the first n counts, in int's wrapping arithmetic -/
def sumZ (Z : Nat → Int) : Nat → Int
  | 0 => 0
  | n + 1 => wrap64 (sumZ Z n + Z n)

set_option maxHeartbeats 400000 in
/-- ReactionCount: the wrapping sum of the counts; it makes new blocks alone. -/
theorem rc_any (likes : Int) (a : Option Addr) (len cap : Nat) (S : Nat → ByteArray) (Z : Nat → Int) (w : World) (hlen : len ≤ 9223372036854775807) (hP : Pairs w a len S Z) :
    Calls Try.prog 8 #[.agg #[.int .i64 likes, .slice a len cap]] w fun e w' => e = .returned (.int .i64 (sumZ Z len)) ∧ Below w.heap.size w w' := by
  go_enter Try.func8, Try.ntmps8
  go_wp2
  go_loopw [3, 9] (fun n i wr => ∃ j : Nat, j ≤ len ∧ i = .int .i64 j ∧ n = .int .i64 (sumZ Z j) ∧ Below w.heap.size w wr) (fun _ i _ => len - (intOf i).toNat)
  case atStart => exact ⟨0, by omega, rfl, rfl, (Below.refl _ _).alloc (Nat.le_refl _) _⟩
  case round =>
    obtain ⟨j, hj, rfl, rfl, hbel⟩ := hrel
    by_cases hlt : j < len
    · rcases hP with h0 | ⟨b, off, rfl, hbs, hc⟩
      · omega
      have hcj := (hc j hlt).1
      have hdj := (hc j hlt).2
      rw [← hbel.cell (by exact hbs)] at hcj hdj
      have hsz := hbel.size
      clear hc
      go_wp2
      go_roundw
      case rel =>
        refine ⟨j + 1, by omega, by go_num, by first | rfl | (simp [sumZ]), ?_⟩
        exact hbel.alloc (by omega) _
      case measure => simp [intOf]; omega
    · have e : j = len := by omega
      subst e
      go_wp2
      go_ret
      exact ⟨rfl, hbel⟩

end Go.Proofs.Qxb6628545a
