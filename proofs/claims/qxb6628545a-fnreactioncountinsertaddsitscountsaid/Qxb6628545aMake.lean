import Derived.Test.Qxb6628545aBase
import Derived.RegionTactic
import Derived.ChangeAlike
import Derived.Laws.MakeOwn
import Derived.Deep.OwnRows
namespace Go.Proofs.Qxb6628545a
open Go.RowKit

/-- what 'make' lays: n zero pairs -/
def mk0 (n : Nat) : Array Value := madeCells #[.string ByteArray.empty, .int .i64 0] (n * 2)

theorem Try.info33 : (Try.prog.info? 33).map (fun i => (i.zero, i.size, i.bytes)) = some (some (.agg #[.string ByteArray.empty, .int .i64 0]), 2, 24) := by kernel_rfl

theorem make26 (n : Nat) (hn : 24 * n ≤ 281474976710656) (w : World) :
    (Instr.makeSlice 26 (.int .i64 (n : Int)) (.int .i64 (n : Int))).run Try.prog w = .ok (.slice (some ⟨w.heap.size, 0, none⟩) n n) (w.alloc (.cells (mk0 n) 33)) := by
  obtain ⟨i, hi, hz⟩ := Option.map_eq_some_iff.1 Try.info33
  simp only [Prod.mk.injEq] at hz
  obtain ⟨hz0, hz1, hz2⟩ := hz
  have hr := run_make (P := Try.prog) w 26 33 i _ Try.underlying26 hi hz0 .i64 .i64 n n (by omega) (Int.le_refl _) (by rw [hz2]; omega) (by omega)
  simp only [Int.toNat_natCast, hz1] at hr
  exact hr

/-- block B is a row of n pairs, none frozen, the first j of which hold S and Z -/
def Filled (w : World) (B n j : Nat) (S : Nat → ByteArray) (Z : Nat → Int) : Prop :=
  ∃ c : Array Value, w.heap[B]? = some (.cells c 33 (0, 0)) ∧ c.size = n * 2 ∧ ∀ i, i < j → c[i * 2]? = some (.string (S i)) ∧ c[i * 2 + 1]? = some (.int .i64 (Z i))

theorem Filled.start (w : World) (n : Nat) (S : Nat → ByteArray) (Z : Nat → Int) : Filled (w.alloc (.cells (mk0 n) 33)) w.heap.size n 0 S Z :=
  ⟨mk0 n, by show (w.heap.push _)[w.heap.size]? = _; simp, size_madeCells _ _, fun i hi => by omega⟩

theorem Filled.has {w : World} {B n j : Nat} {S : Nat → ByteArray} {Z : Nat → Int} (h : Filled w B n j S Z) {i : Nat} (hi : i < n * 2) : ∃ v, w.cell? ⟨B, i, none⟩ = some v := by
  obtain ⟨c, hb, hs, _⟩ := h
  exact ⟨c[i]'(by omega), by simp [World.cell?, hb, show i < c.size by omega]⟩

theorem Filled.frozen {w : World} {B n j : Nat} {S : Nat → ByteArray} {Z : Nat → Int} (h : Filled w B n j S Z) (i : Nat) : w.frozen? ⟨B, i, none⟩ = false := by
  obtain ⟨c, hb, _, _⟩ := h
  simp [World.frozen?, hb]

theorem Filled.lt {w : World} {B n j : Nat} {S : Nat → ByteArray} {Z : Nat → Int} (h : Filled w B n j S Z) : B < w.heap.size := by
  obtain ⟨c, hb, _, _⟩ := h
  exact (Array.getElem?_eq_some_iff.1 hb).1

theorem Filled.step {w : World} {B n j : Nat} {S : Nat → ByteArray} {Z : Nat → Int} (h : Filled w B n j S Z) (hj : j < n) :
    Filled ((w.setCell ⟨B, j * 2, none⟩ (.string (S j))).setCell ⟨B, j * 2 + 1, none⟩ (.int .i64 (Z j))) B n (j + 1) S Z := by
  obtain ⟨c, hb, hs, hc⟩ := h
  refine ⟨(c.setIfInBounds (j * 2) (.string (S j))).setIfInBounds (j * 2 + 1) (.int .i64 (Z j)), ?_, by simpa using hs, fun i hi => ?_⟩
  · simp [World.setCell, Array.getElem?_modify, hb]
  · simp only [Array.getElem?_setIfInBounds, Array.size_setIfInBounds]
    by_cases e : i = j
    · subst e
      constructor
      · rw [if_neg (by omega), if_pos rfl, if_pos (by omega)]
      · rw [if_pos rfl, if_pos (by omega)]
    · have := hc i (by omega)
      constructor
      · rw [if_neg (by omega), if_neg (by omega)]; exact this.1
      · rw [if_neg (by omega), if_neg (by omega)]; exact this.2

theorem Filled.drew {w : World} {B n j : Nat} {S : Nat → ByteArray} {Z : Nat → Int} (h : Filled w B n j S Z) : Filled w.drew B n j S Z := h

theorem Filled.pairs {w : World} {B n : Nat} {S : Nat → ByteArray} {Z : Nat → Int} (h : Filled w B n n S Z) : Pairs w (some ⟨B, 0, none⟩) n S Z := by
  have hlt := h.lt
  obtain ⟨c, hb, hs, hc⟩ := h
  refine .inr ⟨B, 0, rfl, hlt, fun i hi => ?_⟩
  have := hc i hi
  simp only [World.cell?, hb, Nat.zero_add]
  exact ⟨by simpa using this.1, by simpa using this.2⟩

set_option maxHeartbeats 800000 in
/-- toReactions: nil for nil; else a new array of the same pairs. -/
theorem tr_any (a : Option Addr) (len cap : Nat) (S : Nat → ByteArray) (Z : Nat → Int) (w : World) (hlen : len ≤ 32768) (h0 : a = none → len = 0 ∧ cap = 0) (hP : Pairs w a len S Z) :
    Calls Try.prog 6 #[.slice a len cap] w fun e w' => ∃ a' , e = .returned (.slice a' len len) ∧ Pairs w' a' len S Z ∧ Below w.heap.size w w' := by
  have hmk := make26 len (by omega)
  have q22 : ∀ (w : World) (a : Option Addr) (n c n' c' : Nat), (binOp .eql 22 (.slice a n c) (.slice none n' c')).run Try.prog w = .ok (.bool a.isNone) w := fun w a n c n' c' => Lib.run_eql_slice_nil w 22 25 a n c n' c' Try.underlying22
  cases a with
  | none =>
    obtain ⟨rfl, rfl⟩ := h0 rfl
    go_enter Try.func6, Try.ntmps6
    go_wp2
    go_ret
    exact ⟨none, rfl, .inl rfl, Below.refl _ _⟩
  | some x =>
    clear h0
    go_enter Try.func6, Try.ntmps6
    go_wp2
    go_loopw [4] (fun i wr => ∃ j : Nat, j ≤ len ∧ i = .int .i64 j ∧ Filled wr w.heap.size len j S Z ∧ Below w.heap.size w wr) (fun i _ => len - (intOf i).toNat)
    case atStart => exact ⟨0, by omega, rfl, Filled.start _ _ _ _, (Below.refl _ _).alloc (Nat.le_refl _) _⟩
    case round =>
      obtain ⟨j, hj, rfl, hfill, hbel⟩ := hrel
      by_cases hlt : j < len
      · rcases hP with h0 | ⟨b, off, hx, hbs, hc⟩
        · omega
        obtain rfl : x = ⟨b, off, none⟩ := by simpa using hx
        have hcj := (hc j hlt).1
        have hdj := (hc j hlt).2
        rw [← hbel.cell (by exact hbs)] at hcj hdj
        obtain ⟨v0, hv0⟩ := hfill.has (i := j * 2) (by omega)
        obtain ⟨v1, hv1⟩ := hfill.has (i := j * 2 + 1) (by omega)
        have f0 := hfill.frozen (j * 2)
        have f1 := hfill.frozen (j * 2 + 1)
        clear hc hx
        go_wp2
        go_region
        all_goals go_wp2
        all_goals go_roundw
        case rel =>
          refine ⟨j + 1, by omega, by go_num, ?_, ?_⟩
          · exact (hfill.step hlt).drew
          · exact ((hbel.setCell (Nat.le_refl _) _).setCell (Nat.le_refl _) _).drew
        case measure => simp [intOf]; omega
      · have e : j = len := by omega
        subst e
        go_wp2
        go_ret
        exact ⟨_, rfl, hfill.pairs, hbel⟩

end Go.Proofs.Qxb6628545a
