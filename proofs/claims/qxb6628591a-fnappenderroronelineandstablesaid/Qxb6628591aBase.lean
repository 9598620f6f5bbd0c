import Derived.Test.Qxb6628591aRows
import Derived.WalkKit
import Derived.ProofKit
import Derived.WalkSpells
import Derived.WalkLawsBesides
import Derived.Below
import Derived.OwnWalk
namespace Go.Proofs.Qxb6628591a
open Go.RowKit

theorem Try.info5 : (Try.prog.info? 5).map (fun i => (i.zero, i.size, i.bytes)) = some (some (.int .u8 0), 1, 1) := by kernel_rfl

/-- the slice value v owns the bytes L, in blocks from 'base' on -/
def Own (w : World) (base : Nat) (v : Value) (L : List Int) : Prop := w.ownsRow base 5 1 v L.length (L.map (Value.int .u8))

/-- one byte of a text, sanitised -/
def sanC (c : UInt8) : Int := if (c.toNat : Int) = 13 ∨ (c.toNat : Int) = 10 then 32 else c.toNat
/-- a text, sanitised -/
def san (s : ByteArray) : List Int := s.data.toList.map sanC

theorem take_snoc (s : ByteArray) (k : Nat) (h : k < s.size) : s.data.toList.take (k + 1) = s.data.toList.take k ++ [s[k]] := by
  rw [List.take_succ_eq_append_getElem (by simpa using h)]; rfl

theorem san_snoc (s : ByteArray) (k : Nat) (h : k < s.size) : (san s).take (k + 1) = (san s).take k ++ [sanC s[k]] := by
  unfold san; rw [← List.map_take, take_snoc s k h, List.map_append, List.map_take]; rfl

theorem san_len (s : ByteArray) : (san s).length = s.size := by simp [san]

theorem Own.alloc {w : World} {base : Nat} {v : Value} {L : List Int} (h : Own w base v L) (o : Obj) : Own (w.alloc o) base v L := World.ownsRow.alloc h o

/-- one byte appended to a slice of the call's own -/
theorem app1 (w : World) {ops : Array Oper} {rest : List Oper} {o : Oper} {a : Act} {Q : Exit → Act → World → Prop} (hgd : o.guard = none) (s x : Operand)
    (ho : o.op = .call { callee := .builtin .append, args := #[s, x], argTypes := #[22, 22] }) (base : Nat) (v : Value) (L : List Int) (hs : a.eval s = v) (hown : Own w base v L)
    (ad : Addr) (c : Nat) (b : Int) (hx : a.eval x = .slice (some ad) 1 c) (hc : w.cell? ad = some (.int .u8 b)) (hn : L.length ≤ 2147483648) (hbase : base ≤ w.heap.size)
    (h : ∀ v' w', Own w' base v' (L ++ [b]) → Below base w w' → wpList Try.prog ops Q rest (a.put o.dst v') w') : wpList Try.prog ops Q (o :: rest) a w := by
  obtain ⟨i0, hi, hz0, hz1, hz2⟩ := info_parts Try.info5
  refine wpList_append_own w hgd s x 22 ho base 5 i0 (.int .u8 0) 1 1 Try.underlying22 hi hz0 hz1 hz2 rfl (by decide) v _ _ hs hown ad 1 c [.int .u8 b] hx rfl ?_ ?_ ?_ ?_ hbase ?_
  · intro j u hj
    match j, hj with
    | 0, hj =>
      simp at hj; subst hj
      have : ad.add 0 = ad := by unfold Addr.add; split <;> simp_all
      rw [this]; exact hc
  · intro u hu; simp at hu; subst hu; rfl
  · unfold maxLen; omega
  · omega
  · intro v' w' hown' hgrow _
    exact h v' w' (by unfold Own; simpa using hown') ((Below.refl base w).grown hgrow hbase (fun k hk => (World.ownsRow.lt hown k hk).1))

/-- two bytes appended to a slice of the call's own -/
theorem app2 (w : World) {ops : Array Oper} {rest : List Oper} {o : Oper} {a : Act} {Q : Exit → Act → World → Prop} (hgd : o.guard = none) (s x : Operand)
    (ho : o.op = .call { callee := .builtin .append, args := #[s, x], argTypes := #[22, 22] }) (base : Nat) (v : Value) (L : List Int) (hs : a.eval s = v) (hown : Own w base v L)
    (B : Nat) (c : Nat) (b b' : Int) (hx : a.eval x = .slice (some ⟨B, 0, none⟩) 2 c) (hc : w.cell? ⟨B, 0, none⟩ = some (.int .u8 b)) (hc' : w.cell? ⟨B, 1, none⟩ = some (.int .u8 b')) (hn : L.length ≤ 2147483648) (hbase : base ≤ w.heap.size)
    (h : ∀ v' w', Own w' base v' (L ++ [b, b']) → Below base w w' → wpList Try.prog ops Q rest (a.put o.dst v') w') : wpList Try.prog ops Q (o :: rest) a w := by
  obtain ⟨i0, hi, hz0, hz1, hz2⟩ := info_parts Try.info5
  refine wpList_append_own w hgd s x 22 ho base 5 i0 (.int .u8 0) 1 1 Try.underlying22 hi hz0 hz1 hz2 rfl (by decide) v _ _ hs hown ⟨B, 0, none⟩ 2 c [.int .u8 b, .int .u8 b'] hx rfl ?_ ?_ ?_ ?_ hbase ?_
  · intro j u hj
    match j, hj with
    | 0, hj => simp at hj; subst hj; simpa [Addr.add] using hc
    | 1, hj => simp at hj; subst hj; simpa [Addr.add] using hc'
  · intro u hu; simp at hu; rcases hu with rfl | rfl <;> rfl
  · unfold maxLen; omega
  · omega
  · intro v' w' hown' hgrow _
    exact h v' w' (by unfold Own; simpa using hown') ((Below.refl base w).grown hgrow hbase (fun k hk => (World.ownsRow.lt hown k hk).1))

theorem own_next {w' : World} {base : Nat} {v' : Value} {L : List Int} {msg : ByteArray} {k : Nat} {x c : Int} (h : Own w' base v' (L ++ 45 :: ((san msg).take k ++ [x])))
    (HS : Hid ((san msg).take (k + 1) = (san msg).take k ++ [c])) (HC : Hid (c = x)) : Own w' base v' (L ++ [45] ++ (san msg).take (k + 1)) := by
  rw [HS.out, HC.out]; simpa using h

set_option maxHeartbeats 1000000 in
/-- AppendError onto a slice that the caller owns. -/
theorem ae_any (base : Nat) (v : Value) (L : List Int) (msg : ByteArray) (w : World) (hsz : L.length + msg.size ≤ 1073741824) (hown : Own w base v L) (hbase : base ≤ w.heap.size) :
    Calls Try.prog 6 #[v, .string msg] w fun e w' => ∃ v', e = .returned v' ∧ Own w' base v' (L ++ [45] ++ san msg ++ [13, 10]) ∧ Below base w w' := by
  go_enter Try.func6, Try.ntmps6
  go_wp2_with (at_builtin; refine app1 _ rfl (.tmp 7) (.tmp 8) rfl base _ _ rfl (hown.alloc _) ⟨w.heap.size, 0, none⟩ 1 45 rfl (by simp) (by omega) (by simp; omega) ?_)
  intro v1 w1 hown1 hb1
  have hbel1 : Below base w w1 := ((Below.refl base w).alloc hbase _).trans hb1
  clear hb1 hown
  go_wp2
  go_loopw [0, 5] (fun b i wr => ∃ k : Nat, k ≤ msg.size ∧ i = .int .i64 k ∧ Own wr base b (L ++ [45] ++ (san msg).take k) ∧ Below base w wr) (fun _ i _ => msg.size - (intOf i).toNat)
  case atStart => exact ⟨0, by omega, rfl, by simpa using hown1, hbel1⟩
  case round =>
    obtain ⟨k, hk, rfl, hown, hbel⟩ := hrel
    have hll : (L ++ [45] ++ (san msg).take k).length ≤ 1073741825 := by simp [san_len]; omega
    have hsz' := hbel.size
    clear hown1 hbel1
    by_cases hlt : k < msg.size
    · have HS : Hid ((san msg).take (k + 1) = (san msg).take k ++ [sanC msg[k]]) := san_snoc msg k hlt
      by_cases h13 : ((msg[k].toNat : Int) == 13) = true
      · have HC : Hid (sanC msg[k] = 32) := by unfold Hid sanC; rw [if_pos (Or.inl (by simpa using h13))]
        go_wp2_with (at_builtin; refine app1 _ rfl (.tmp 25) (.tmp 27) rfl base _ _ rfl (hown.alloc _) ⟨wr.heap.size, 0, none⟩ 1 32 rfl (by simp) (by omega) (by simp; omega) ?_)
        intro v' w' hown' hb'
        have hb2 : Below base w w' := (hbel.alloc (by omega) _).trans hb'
        clear hown hbel hb'
        go_wp2
        go_roundw
        case rel => exact ⟨k + 1, by omega, by go_num, own_next hown' HS HC, hb2⟩
        case measure => simp [intOf]; omega
      · by_cases h10 : ((msg[k].toNat : Int) == 10) = true
        · have HC : Hid (sanC msg[k] = 32) := by unfold Hid sanC; rw [if_pos (Or.inr (by simpa using h10))]
          have h13' : ((msg[k].toNat : Int) == 13) = false := by simpa using h13
          clear h13
          go_wp2_with (at_builtin; refine app1 _ rfl (.tmp 25) (.tmp 27) rfl base _ _ rfl (hown.alloc _) ⟨wr.heap.size, 0, none⟩ 1 32 rfl (by simp) (by omega) (by simp; omega) ?_)
          intro v' w' hown' hb'
          have hb2 : Below base w w' := (hbel.alloc (by omega) _).trans hb'
          clear hown hbel hb'
          go_wp2
          go_roundw
          case rel => exact ⟨k + 1, by omega, by go_num, own_next hown' HS HC, hb2⟩
          case measure => simp [intOf]; omega
        · have HC : Hid (sanC msg[k] = msg[k].toNat) := by unfold Hid sanC; rw [if_neg (fun h => h.elim (fun h => h13 (by simpa using h)) (fun h => h10 (by simpa using h)))]
          have h13' : ((msg[k].toNat : Int) == 13) = false := by simpa using h13
          have h10' : ((msg[k].toNat : Int) == 10) = false := by simpa using h10
          clear h13 h10
          go_wp2_with (at_builtin; refine app1 _ rfl (.tmp 25) (.tmp 27) rfl base _ _ rfl (hown.alloc _) ⟨wr.heap.size, 0, none⟩ 1 msg[k].toNat rfl (by simp) (by omega) (by simp; omega) ?_)
          intro v' w' hown' hb'
          have hb2 : Below base w w' := (hbel.alloc (by omega) _).trans hb'
          clear hown hbel hb'
          go_wp2
          go_roundw
          case rel => exact ⟨k + 1, by omega, by go_num, own_next hown' HS HC, hb2⟩
          case measure => simp [intOf]; omega
    · have e : k = msg.size := by omega
      subst e
      go_wp2_with (at_builtin; refine app2 _ rfl (.tmp 29) (.tmp 30) rfl base _ _ rfl (hown.alloc _) wr.heap.size 2 13 10 rfl (by simp) (by simp) (by omega) (by simp; omega) ?_)
      intro v' w' hown' hb'
      have hb2 : Below base w w' := (hbel.alloc (by omega) _).trans hb'
      clear hown hbel hb'
      go_wp2
      go_ret
      rw [List.take_of_length_le (by rw [san_len]; exact Nat.le_refl _)] at hown'
      exact ⟨v', rfl, by simpa using hown', hb2⟩

end Go.Proofs.Qxb6628591a
