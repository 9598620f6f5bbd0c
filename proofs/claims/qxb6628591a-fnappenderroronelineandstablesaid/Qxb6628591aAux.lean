import Derived.Test.Qxb6628591aBase
import Derived.RegionTactic
import Derived.ChangeAlike
import Derived.Laws.MakeOwn
import Derived.Deep.OwnRows
import Derived.Deep.QuietTactic
import Derived.BigQuiet
namespace Go.Proofs.Qxb6628591a
open Go.RowKit

/-- the slice at 'a' of 'len' bytes: empty, or it leads to its cells -/
def Bts (w : World) (a : Option Addr) (len : Nat) (F : Nat → Int) : Prop :=
  len = 0 ∨ ∃ b off, a = some ⟨b, off, none⟩ ∧ b < w.heap.size ∧ ∀ i, i < len → w.cell? ⟨b, off + i, none⟩ = some (.int .u8 (F i))

theorem Bts.below {B : Nat} {w w' : World} {a : Option Addr} {len : Nat} {F : Nat → Int} (h : Bts w a len F) (hb : Below B w w') (hB : w.heap.size ≤ B) : Bts w' a len F := by
  rcases h with h | ⟨b, off, ha, hlt, hc⟩
  · exact .inl h
  · refine .inr ⟨b, off, ha, Nat.lt_of_lt_of_le hlt hb.size, fun i hi => ?_⟩
    rw [hb.cell (by show b < B; omega)]
    exact hc i hi

theorem make22 (n : Nat) (hn : n ≤ 281474976710656) (w : World) :
    (Instr.makeSlice 22 (.int .i64 (n : Int)) (.int .i64 (n : Int))).run Try.prog w = .ok (.slice (some ⟨w.heap.size, 0, none⟩) n n) (w.alloc (.cells (madeCells #[.int .u8 0] n) 5)) :=
  run_make_row' 22 5 (.int .u8 0) 1 Try.underlying22 Try.info5 rfl .i64 .i64 n (by omega) (by omega) w

/-- block B is a row of n bytes, none frozen, the first j of which are F's -/
def Filled (w : World) (B n j : Nat) (F : Nat → Int) : Prop :=
  ∃ c : Array Value, w.heap[B]? = some (.cells c 5 (0, 0)) ∧ c.size = n ∧ ∀ i, i < j → c[i]? = some (.int .u8 (F i))

theorem Filled.start (w : World) (n : Nat) (F : Nat → Int) : Filled (w.alloc (.cells (madeCells #[.int .u8 0] n) 5)) w.heap.size n 0 F :=
  ⟨madeCells #[.int .u8 0] n, by show (w.heap.push _)[w.heap.size]? = _; simp, size_madeCells _ _, fun i hi => by omega⟩

theorem Filled.has {w : World} {B n j : Nat} {F : Nat → Int} (h : Filled w B n j F) {i : Nat} (hi : i < n) : ∃ v, w.cell? ⟨B, i, none⟩ = some v := by
  obtain ⟨c, hb, hs, _⟩ := h
  exact ⟨c[i]'(by omega), by simp [World.cell?, hb, show i < c.size by omega]⟩

theorem Filled.frozen {w : World} {B n j : Nat} {F : Nat → Int} (h : Filled w B n j F) (i : Nat) : w.frozen? ⟨B, i, none⟩ = false := by
  obtain ⟨c, hb, _, _⟩ := h
  simp [World.frozen?, hb]

theorem Filled.step {w : World} {B n j : Nat} {F : Nat → Int} (h : Filled w B n j F) (hj : j < n) : Filled (w.setCell ⟨B, j, none⟩ (.int .u8 (F j))) B n (j + 1) F := by
  obtain ⟨c, hb, hs, hc⟩ := h
  refine ⟨c.setIfInBounds j (.int .u8 (F j)), ?_, by simpa using hs, fun i hi => ?_⟩
  · simp [World.setCell, Array.getElem?_modify, hb]
  · simp only [Array.getElem?_setIfInBounds]
    by_cases e : i = j
    · subst e
      rw [if_pos rfl, if_pos (by omega)]
    · rw [if_neg (by omega)]; exact hc i (by omega)

theorem Filled.own {w : World} {B n : Nat} {F : Nat → Int} (h : Filled w B n n F) (hn : n ≤ 1073741824) : Own w B (.slice (some ⟨B, 0, none⟩) n n) ((List.range n).map F) := by
  obtain ⟨c, hb, hs, hc⟩ := h
  refine ⟨by simp, .inr ⟨B, n, c, by simp, Nat.le_refl _, hb, by simp, by unfold maxLen; omega, by omega, ?_⟩⟩
  apply List.ext_getElem?
  intro i
  by_cases hi : i < n
  · have := hc i hi
    simp [hi]
    simpa using this
  · simp [show n ≤ i by omega, hs]

set_option maxHeartbeats 800000 in
theorem clone_any (a : Option Addr) (len cap : Nat) (F : Nat → Int) (w : World) (hlen : len ≤ 524288) (h0 : a = none → len = 0 ∧ cap = 0) (hB : Bts w a len F) :
    Calls Try.prog 7 #[.slice a len cap] w fun e w' => ∃ v', e = .returned v' ∧ Own w' w.heap.size v' ((List.range len).map F) ∧ Below w.heap.size w w' := by
  have hmk := make22 len (by omega)
  have q22 : ∀ (w : World) (a : Option Addr) (n c n' c' : Nat), (binOp .eql 22 (.slice a n c) (.slice none n' c')).run Try.prog w = .ok (.bool a.isNone) w := fun w a n c n' c' => Lib.run_eql_slice_nil w 22 5 a n c n' c' Try.underlying22
  cases a with
  | none =>
    obtain ⟨rfl, rfl⟩ := h0 rfl
    go_enter Try.func7, Try.ntmps7
    go_wp2
    go_ret
    exact ⟨_, rfl, World.ownsRow_nil _ _ _ _, Below.refl _ _⟩
  | some x =>
    clear h0
    go_enter Try.func7, Try.ntmps7
    go_wp2
    go_loopw [4] (fun i wr => ∃ j : Nat, j ≤ len ∧ i = .int .i64 j ∧ Filled wr w.heap.size len j F ∧ Below w.heap.size w wr) (fun i _ => len - (intOf i).toNat)
    case atStart => exact ⟨0, by omega, rfl, Filled.start _ _ _, (Below.refl _ _).alloc (Nat.le_refl _) _⟩
    case round =>
      obtain ⟨j, hj, rfl, hfill, hbel⟩ := hrel
      by_cases hlt : j < len
      · rcases hB with h0 | ⟨b, off, hx, hbs, hc⟩
        · omega
        obtain rfl : x = ⟨b, off, none⟩ := by simpa using hx
        have hcj := hc j hlt
        rw [← hbel.cell (by exact hbs)] at hcj
        obtain ⟨v0, hv0⟩ := hfill.has hlt
        have f0 := hfill.frozen j
        clear hc hx
        go_wp2
        go_roundw
        case rel =>
          refine ⟨j + 1, by omega, by go_num, hfill.step hlt, ?_⟩
          exact hbel.setCell (Nat.le_refl _) _
        case measure => simp [intOf]; omega
      · have e : j = len := by omega
        subst e
        go_wp2
        go_ret
        exact ⟨_, rfl, hfill.own (by omega), hbel⟩

theorem drewN_add' (w : World) (n m : Nat) : (w.drewN n).drewN m = w.drewN (n + m) := by
  simp [World.drewN, Nat.add_assoc]

set_option maxHeartbeats 800000 in
/-- sameBytes at two slices of the same bytes: true. -/
theorem same_any (a a' : Option Addr) (len cap cap' : Nat) (F G : Nat → Int) (w : World) (hlen : len ≤ 9223372036854775807) (hA : Bts w a len F) (hB : Bts w a' len G) (hFG : ∀ i, i < len → F i = G i) :
    Calls Try.prog 8 #[.slice a len cap, .slice a' len cap'] w fun e w' => e = .returned (.bool true) ∧ ∃ n, w' = w.drewN n := by
  go_enter Try.func8, Try.ntmps8
  go_wp2
  go_loopw [5] (fun i wr => ∃ (j n : Nat), j ≤ len ∧ i = .int .i64 j ∧ wr = w.drewN n) (fun i _ => len - (intOf i).toNat)
  case atStart => exact ⟨0, 0, by omega, rfl, rfl⟩
  case round =>
    obtain ⟨j, n, hj, rfl, hwr⟩ := hrel
    by_cases hlt : j < len
    · rcases hA with h0 | ⟨b, off, rfl, hbs, hc⟩
      · omega
      rcases hB with h0 | ⟨b', off', rfl, hbs', hc'⟩
      · omega
      have hcj : wr.cell? ⟨b, off + j, none⟩ = some (.int .u8 (G j)) := by rw [hwr, ← hFG j hlt]; simpa using hc j hlt
      have hcj' : wr.cell? ⟨b', off' + j, none⟩ = some (.int .u8 (G j)) := by rw [hwr]; simpa using hc' j hlt
      have hl : (j : Int) < (len : Int) := by omega
      have HW : Hid (wr = w.drewN n) := hwr
      clear hc hc' hFG hwr
      go_wp2
      go_quiet (fail)
      go_wp2
      go_roundw
      case rel => exact ⟨j + 1, n + nq, by omega, by go_num, by rw [HW.out, drewN_add']⟩
      case measure => simp [intOf]; omega
    · subst hwr
      go_wp2
      go_ret
      exact ⟨rfl, _, rfl⟩

end Go.Proofs.Qxb6628591a
