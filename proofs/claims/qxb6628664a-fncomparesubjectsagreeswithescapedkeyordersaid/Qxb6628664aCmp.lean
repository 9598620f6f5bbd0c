import Derived.Test.Qxb6628664aRows
import Derived.WalkKit
import Derived.ProofKit
import Derived.OpenShut
import Derived.WalkSpells
import Derived.WalkLawsBesides
import Derived.Below
import Derived.Lib.Strings
import Derived.Lib.Walk
import Derived.Lib.Bytealg
namespace Go.Proofs.Qxb6628664a
open Go.RowKit

/-- the order of two strings' bytes: -1, 0 or 1 -/
def cmpB (a b : ByteArray) : Int := Lib.compareBytes a.data.toList b.data.toList

set_option maxHeartbeats 1000000 in
set_option maxRecDepth 100000 in
theorem bc_any (a b : ByteArray) (w : World) : Calls Try.prog 12 #[.string a, .string b] w fun e w' => e = .returned (.int .i64 (cmpB a b)) ∧ w' = w := by
  go_enter Try.func12, Try.ntmps12
  go_wp2
  rw [run_callFunc_extern Try.func13 (by kernel_rfl) (by kernel_rfl) (by kernel_rfl) (e := Extern.BytealgCompare.compare) (by kernel_rfl), Lib.run_compareString]
  simp only [Result.andThen]
  rw [Oper.upon_value]
  go_wp2
  go_ret
  exact ⟨rfl, rfl⟩

/-- strings.Compare -/
theorem sc_any (a b : ByteArray) (w : World) : Calls Try.prog 11 #[.string a, .string b] w fun e w' => e = .returned (.int .i64 (cmpB a b)) ∧ w' = w := by
  go_enter Try.func11, Try.ntmps11
  go_wp2_with (go_at_call 12; refine (bc_any _ _ _).mono ?_; rintro e w' ⟨rfl, rfl⟩)
  go_ret
  exact ⟨rfl, rfl⟩

/-- the order of two triples -/
def cmp3 (a1 a2 a3 b1 b2 b3 : ByteArray) : Int := if (cmpB a1 b1 != 0) = true then cmpB a1 b1 else if (cmpB a2 b2 != 0) = true then cmpB a2 b2 else cmpB a3 b3

/-- a triple of strings in memory -/
def box3 (a b c : ByteArray) : Obj := .cells #[.string a, .string b, .string c] 27

theorem cs_any (a1 a2 a3 b1 b2 b3 : ByteArray) (w : World) :
    Calls Try.prog 8 #[.agg #[.string a1, .string a2, .string a3], .agg #[.string b1, .string b2, .string b3]] w fun e w' => e = .returned (.int .i64 (cmp3 a1 a2 a3 b1 b2 b3)) ∧ w' = (w.alloc (box3 a1 a2 a3)).alloc (box3 b1 b2 b3) := by
  by_cases h1 : (cmpB a1 b1 != 0) = true
  · have HF : Hid (cmp3 a1 a2 a3 b1 b2 b3 = cmpB a1 b1) := by unfold Hid cmp3; rw [if_pos h1]
    go_enter Try.func8, Try.ntmps8
    go_wp2_with (go_at_call 11; refine (sc_any _ _ _).mono ?_; rintro e w' ⟨rfl, rfl⟩)
    go_ret
    exact ⟨by rw [HF.out]; rfl, rfl⟩
  · by_cases h2 : (cmpB a2 b2 != 0) = true
    · have HF : Hid (cmp3 a1 a2 a3 b1 b2 b3 = cmpB a2 b2) := by unfold Hid cmp3; rw [if_neg h1, if_pos h2]
      have h1' : (cmpB a1 b1 != 0) = false := by simpa using h1
      clear h1
      go_enter Try.func8, Try.ntmps8
      go_wp2_with (go_at_call 11; refine (sc_any _ _ _).mono ?_; rintro e w' ⟨rfl, rfl⟩)
      go_ret
      exact ⟨by rw [HF.out]; rfl, rfl⟩
    · have HF : Hid (cmp3 a1 a2 a3 b1 b2 b3 = cmpB a3 b3) := by unfold Hid cmp3; rw [if_neg h1, if_neg h2]
      have h1' : (cmpB a1 b1 != 0) = false := by simpa using h1
      have h2' : (cmpB a2 b2 != 0) = false := by simpa using h2
      clear h1 h2
      go_enter Try.func8, Try.ntmps8
      go_wp2_with (go_at_call 11; refine (sc_any _ _ _).mono ?_; rintro e w' ⟨rfl, rfl⟩)
      go_ret
      exact ⟨by rw [HF.out]; rfl, rfl⟩

/-- It answers some bool. -/
def SomeBool (e : Ending) : Prop := ∃ r : Bool, e = .returned (.bool r)

theorem zz9_any (a b c d f g : ByteArray) (w : World) (ha : a.size ≤ 9223372036854775807) (hb : b.size ≤ 9223372036854775807) (hc : c.size ≤ 9223372036854775807) (hd : d.size ≤ 9223372036854775807) (hf : f.size ≤ 9223372036854775807) (hg : g.size ≤ 9223372036854775807) :
    Calls Try.prog 9 #[.string a, .string b, .string c, .string d, .string f, .string g] w fun e w' => SomeBool e ∧ w' = w := by
  go_enter Try.func9, Try.ntmps9
  go_wp2
  all_goals
    go_ret
    exact ⟨⟨_, rfl⟩, rfl⟩

theorem zz5_any (a b c d f g : ByteArray) (w : World) (ha : a.size ≤ 9223372036854775807) (hb : b.size ≤ 9223372036854775807) (hc : c.size ≤ 9223372036854775807) (hd : d.size ≤ 9223372036854775807) (hf : f.size ≤ 9223372036854775807) (hg : g.size ≤ 9223372036854775807) :
    Calls Try.prog 5 #[.string a, .string b, .string c, .string d, .string f, .string g] w fun e w' => SomeBool e ∧ w' = w := by
  go_enter Try.func5, Try.ntmps5
  go_wp2
  all_goals
    go_ret
    exact ⟨⟨_, rfl⟩, rfl⟩

end Go.Proofs.Qxb6628664a
