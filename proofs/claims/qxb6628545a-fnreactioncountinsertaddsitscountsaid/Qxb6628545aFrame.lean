import Derived.Test.Qxb6628545aPlain
import Derived.Deep.SlicePairs
import Derived.OpenShut
import Derived.ShutString
import Derived.ChangeOld
namespace Go.Proofs.Qxb6628545a
open Go.ChangeShapes Go.WideShapes Go.ChangeAt Go.RowKit

theorem own : ownKnob Try.prog.godebug = none := by kernel_rfl
theorem laidOut : laidOutB Try.prog = true := by kernel_rfl

theorem wf_bounds {n : Int} (h : (Lit.int .i64 n).wf = true) : -9223372036854775808 ≤ n ∧ n ≤ 9223372036854775807 := by
  have := bounds_i64 h
  omega

/-- The argument of type 22, opened. -/
theorem opened {H : Type} {enc : TypeId × Value → H} {W : World} {a : Option Addr} {len cap : Nat} {d : DataW H} {p : List MemPlace} (ht : DataW.Trod enc Try.prog W 0 (fun _ => true) true 22 (.slice a len cap) d p) :
    ∃ S Z, Pairs W a len S Z ∧ (∀ i, i < len → (S i).size ≤ 9223372036854775807) ∧ (∀ i, i < len → -9223372036854775808 ≤ Z i ∧ Z i ≤ 9223372036854775807) ∧ (a = none → len = 0 ∧ cap = 0) ∧ len ≤ 9223372036854775807 := by
  obtain ⟨fuel, hf⟩ := ht
  rcases Deep.open_slice_pairs Try.underlying22 Try.underlying25 (by kernel_rfl) rfl rfl (by kernel_rfl) (by kernel_rfl) hf with ⟨hcs, _⟩ | ⟨x, l, c, m, n, V0, V1, D0, D1, P0, P1, hcs, _, hl, hm, hmm, _, hx⟩
  · simp [Value.cells] at hcs
    obtain ⟨rfl, rfl, rfl⟩ := hcs
    exact ⟨fun _ => ByteArray.empty, fun _ => 0, .inl rfl, fun i hi => by omega, fun i hi => by omega, fun _ => ⟨rfl, rfl⟩, by omega⟩
  · simp [Value.cells] at hcs
    obtain ⟨rfl, rfl, rfl⟩ := hcs
    simp only [if_true] at hmm
    subst hmm
    unfold maxLen at hm
    have each : ∀ i, i < m → ∃ q : ByteArray × Int, W.cell? (x.add (i * 2)) = some (.string q.1) ∧ W.cell? (x.add (i * 2 + 1)) = some (.int .i64 q.2) ∧ q.1.size ≤ 9223372036854775807 ∧ -9223372036854775808 ≤ q.2 ∧ q.2 ≤ 9223372036854775807 := by
      intro i hi
      obtain ⟨c0, c1, t0, t1⟩ := hx i hi
      obtain ⟨s, hs, _, hsz⟩ := DataW.trod_string Try.underlying9 t0
      obtain ⟨z, hz, _, hwf⟩ := DataW.trod_int Try.underlying3 t1
      simp at hs hz
      unfold maxLen at hsz
      exact ⟨(s, z), by rw [c0, hs], by rw [c1, hz], hsz, (wf_bounds hwf).1, (wf_bounds hwf).2⟩
    obtain ⟨q, hq⟩ := Deep.choose_lt each
    refine ⟨fun i => (q i).1, fun i => (q i).2, ?_, fun i hi => (hq i (by omega)).2.2.1, fun i hi => (hq i (by omega)).2.2.2, fun h => (by simp at h), by omega⟩
    by_cases h0 : len = 0
    · exact .inl h0
    · obtain ⟨b, off, spot⟩ := x
      have hspot : spot = none := by simpa [Addr.add] using World.cell?_spot (hq 0 (by omega)).1
      subst hspot
      have hbs : b < W.heap.size := by
        have h := (hq 0 (by omega)).1
        rw [add_plain] at h
        refine Nat.lt_of_not_le fun hle => ?_
        have hn : W.heap[b]? = none := Array.getElem?_eq_none hle
        simp [World.cell?, hn] at h
      refine .inr ⟨b, off, rfl, hbs, fun i hi => ?_⟩
      have := hq i (by omega)
      rw [add_plain, add_plain] at this
      exact ⟨this.1, this.2.1⟩

end Go.Proofs.Qxb6628545a
