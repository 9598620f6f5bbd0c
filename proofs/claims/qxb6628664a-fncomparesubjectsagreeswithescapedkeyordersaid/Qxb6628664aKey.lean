import Derived.Test.Qxb6628664aPlain
import Derived.OwnWalk
import Derived.Laws.MakeOwn
import Derived.Deep.QuietTactic
import Derived.BigQuiet
namespace Go.Proofs.Qxb6628664a
open Go.RowKit

theorem Try.info5 : (Try.prog.info? 5).map (fun i => (i.zero, i.size, i.bytes)) = some (some (.int .u8 0), 1, 1) := by kernel_rfl

/-- the slice value v owns the bytes L, in blocks from 'base' on -/
def Own (w : World) (base : Nat) (v : Value) (L : List Int) : Prop := w.ownsRow base 5 1 v L.length (L.map (Value.int .u8))

theorem Own.alloc {w : World} {base : Nat} {v : Value} {L : List Int} (h : Own w base v L) (o : Obj) : Own (w.alloc o) base v L := World.ownsRow.alloc h o

/-- one byte appended to a slice of the call's own -/
theorem app1 (w : World) {ops : Array Oper} {rest : List Oper} {o : Oper} {a : Act} {Q : Exit → Act → World → Prop} (hgd : o.guard = none) (s x : Operand)
    (ho : o.op = .call { callee := .builtin .append, args := #[s, x], argTypes := #[24, 24] }) (base : Nat) (v : Value) (L : List Int) (hs : a.eval s = v) (hown : Own w base v L)
    (ad : Addr) (c : Nat) (b : Int) (hx : a.eval x = .slice (some ad) 1 c) (hc : w.cell? ad = some (.int .u8 b)) (hn : L.length ≤ 2147483648) (hbase : base ≤ w.heap.size)
    (h : ∀ v' w', Own w' base v' (L ++ [b]) → Below base w w' → wpList Try.prog ops Q rest (a.put o.dst v') w') : wpList Try.prog ops Q (o :: rest) a w := by
  obtain ⟨i0, hi, hz0, hz1, hz2⟩ := info_parts Try.info5
  refine wpList_append_own w hgd s x 24 ho base 5 i0 (.int .u8 0) 1 1 Try.underlying24 hi hz0 hz1 hz2 rfl (by decide) v _ _ hs hown ad 1 c [.int .u8 b] hx rfl ?_ ?_ ?_ ?_ hbase ?_
  · intro j u hj
    match j, hj with
    | 0, hj =>
      simp at hj; subst hj
      have : ad.add 0 = ad := by unfold Addr.add; split <;> simp_all
      rw [this]; exact hc
  · intro u hu; simp at hu; subst hu; rfl
  · unfold maxLen; omega
  · omega
  · intro v' w' hown' hgrow _
    exact h v' w' (by unfold Own; simpa using hown') ((Below.refl base w).grown hgrow hbase (fun k hk => (World.ownsRow.lt hown k hk).1))

/-- one byte, escaped -/
def e1 (c : UInt8) : List Int := if (c.toNat : Int) = 0 then [0, 1] else [(c.toNat : Int)]
/-- a text's bytes, escaped, without the end mark -/
def eb (l : List UInt8) : List Int := l.flatMap e1
/-- a field, escaped -/
def esc (l : List UInt8) : List Int := eb l ++ [0, 0]

theorem e1_len (c : UInt8) : (e1 c).length ≤ 2 := by unfold e1; split <;> simp
theorem eb_len : ∀ l, (eb l).length ≤ 2 * l.length
  | [] => by simp [eb]
  | c :: l => by
    have := eb_len l
    have h := e1_len c
    have e : eb (c :: l) = e1 c ++ eb l := rfl
    rw [e, List.length_append, List.length_cons]; omega

theorem take_snoc (s : ByteArray) (k : Nat) (h : k < s.size) : s.data.toList.take (k + 1) = s.data.toList.take k ++ [s[k]] := by
  rw [List.take_succ_eq_append_getElem (by simpa using h)]; rfl

theorem eb_snoc (s : ByteArray) (k : Nat) (h : k < s.size) : eb (s.data.toList.take (k + 1)) = eb (s.data.toList.take k) ++ e1 s[k] := by
  unfold eb; rw [take_snoc s k h, List.flatMap_append]; simp

theorem own_next {w' : World} {base : Nat} {v' : Value} {L A B C : List Int} (h : Own w' base v' (L ++ (A ++ B))) (HS : Hid (C = A ++ B)) : Own w' base v' (L ++ C) := by
  rw [HS.out]; exact h

set_option maxHeartbeats 1000000 in
/-- zzEscapeField onto a slice that the caller owns. -/
theorem esc_any (base : Nat) (v : Value) (L : List Int) (s : ByteArray) (w : World) (hsz : L.length + 2 * s.size ≤ 1073741824) (hown : Own w base v L) (hbase : base ≤ w.heap.size) :
    Calls Try.prog 10 #[v, .string s] w fun e w' => ∃ v', e = .returned v' ∧ Own w' base v' (L ++ esc s.data.toList) ∧ Below base w w' := by
  go_enter Try.func10, Try.ntmps10
  go_wp2
  go_loopw [0, 5] (fun b i wr => ∃ k : Nat, k ≤ s.size ∧ i = .int .i64 k ∧ Own wr base b (L ++ eb (s.data.toList.take k)) ∧ Below base w wr) (fun _ i _ => s.size - (intOf i).toNat)
  case atStart => exact ⟨0, by omega, rfl, by simpa [eb] using hown, Below.refl _ _⟩
  case round =>
    clear hown
    obtain ⟨k, hk, rfl, hown, hbel⟩ := hrel
    have hll : (L ++ eb (s.data.toList.take k)).length ≤ 1073741824 := by
      have := eb_len (s.data.toList.take k)
      have h2 : (s.data.toList.take k).length ≤ k := List.length_take_le _ _
      rw [List.length_append]; omega
    have hsz' := hbel.size
    by_cases hlt : k < s.size
    · by_cases h0 : ((s[k].toNat : Int) == 0) = true
      · have HS : Hid (eb (s.data.toList.take (k + 1)) = eb (s.data.toList.take k) ++ [0, 1]) := by
          unfold Hid; rw [eb_snoc s k hlt]; unfold e1; rw [if_pos (by simpa using h0)]
        go_wp2_with (at_builtin; refine app1 _ rfl (.tmp 18) (.tmp 19) rfl base _ _ rfl (hown.alloc _) ⟨wr.heap.size, 0, none⟩ 1 0 rfl (by simp) (by omega) (by simp; omega) ?_)
        intro v1 w1 hown1 hb1
        have hb1 : Below base w w1 := (hbel.alloc (by omega) _).trans hb1
        have hs1 := hb1.size
        have hl1 : (L ++ eb (s.data.toList.take k) ++ [0]).length ≤ 1073741825 := by rw [List.length_append]; simp only [List.length_cons, List.length_nil]; omega
        have hown1 : Own w1 base v1 (L ++ eb (s.data.toList.take k) ++ [0]) := by rw [List.append_assoc]; exact hown1
        clear hown hbel
        go_wp2_with (at_builtin; go_must (refine app1 _ rfl (.tmp 21) (.tmp 22) rfl base _ _ rfl (hown1.alloc _) ⟨w1.heap.size, 0, none⟩ 1 1 rfl (by simp) (by omega) (by simp; omega) ?_))
        intro v2 w2 hown2 hb2
        have hb2 : Below base w w2 := (hb1.alloc (by omega) _).trans hb2
        clear hown1 hb1
        go_wp2
        go_roundw
        case rel => exact ⟨k + 1, by omega, by go_num, own_next (by simpa using hown2) HS, hb2⟩
        case measure => simp [intOf]; omega
      · have h0' : ((s[k].toNat : Int) == 0) = false := by simpa using h0
        have HS : Hid (eb (s.data.toList.take (k + 1)) = eb (s.data.toList.take k) ++ [(s[k].toNat : Int)]) := by
          unfold Hid; rw [eb_snoc s k hlt]; unfold e1; rw [if_neg (by simpa using h0)]
        clear h0
        go_wp2_with (at_builtin; go_must (refine app1 _ rfl (.tmp 24) (.tmp 26) rfl base _ _ rfl (hown.alloc _) ⟨wr.heap.size, 0, none⟩ 1 s[k].toNat rfl (by simp) (by omega) (by simp; omega) ?_))
        intro v1 w1 hown1 hb1
        have hb1 : Below base w w1 := (hbel.alloc (by omega) _).trans hb1
        clear hown hbel
        go_wp2
        go_roundw
        case rel => exact ⟨k + 1, by omega, by go_num, own_next hown1 HS, hb1⟩
        case measure => simp [intOf]; omega
    · have e : k = s.size := by omega
      subst e
      go_wp2_with (at_builtin; go_must (refine app1 _ rfl (.tmp 28) (.tmp 29) rfl base _ _ rfl (hown.alloc _) ⟨wr.heap.size, 0, none⟩ 1 0 rfl (by simp) (by omega) (by simp; omega) ?_))
      intro v1 w1 hown1 hb1
      have hb1 : Below base w w1 := (hbel.alloc (by omega) _).trans hb1
      have hs1 := hb1.size
      have hl1 : (L ++ eb (s.data.toList.take s.size) ++ [0]).length ≤ 1073741825 := by rw [List.length_append]; simp only [List.length_cons, List.length_nil]; omega
      have hown1 : Own w1 base v1 (L ++ eb (s.data.toList.take s.size) ++ [0]) := by rw [List.append_assoc]; exact hown1
      clear hown hbel
      go_wp2_with (at_builtin; go_must (refine app1 _ rfl (.tmp 31) (.tmp 32) rfl base _ _ rfl (hown1.alloc _) ⟨w1.heap.size, 0, none⟩ 1 0 rfl (by simp) (by omega) (by simp; omega) ?_))
      intro v2 w2 hown2 hb2
      have hb2 : Below base w w2 := (hb1.alloc (by omega) _).trans hb2
      clear hown1 hb1
      go_wp2
      go_ret
      have e3 : s.data.toList.take s.size = s.data.toList := List.take_of_length_le (by simp)
      rw [e3] at hown2
      exact ⟨v2, rfl, by simpa [esc] using hown2, hb2⟩

end Go.Proofs.Qxb6628664a
