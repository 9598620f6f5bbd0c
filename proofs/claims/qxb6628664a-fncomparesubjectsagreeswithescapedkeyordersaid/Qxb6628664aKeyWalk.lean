import Derived.Test.Qxb6628664aOrder
namespace Go.Proofs.Qxb6628664a
open Go.RowKit

theorem below_alloc {W w : World} (h : Below W.heap.size W w) (o : Obj) : Below W.heap.size W (w.alloc o) := h.alloc h.size o

set_option maxHeartbeats 1000000 in
theorem key_walk (a0 a1 a2 b0 b1 b2 : ByteArray) (w : World) (h0 : a0.size ≤ 9223372036854775807) (h1 : a1.size ≤ 9223372036854775807) (h2 : a2.size ≤ 9223372036854775807) (k0 : b0.size ≤ 9223372036854775807) (k1 : b1.size ≤ 9223372036854775807) (k2 : b2.size ≤ 9223372036854775807) :
    Calls Try.prog 3 #[.string a0, .string a1, .string a2, .string b0, .string b1, .string b2] w fun e w' => e = .returned (.bool true) ∧ Below w.heap.size w w' := by
  have hzz := zz5_any a0 a1 a2 b0 b1 b2 w h0 h1 h2 k0 k1 k2
  go_enter Try.func3, Try.ntmps3
  go_wp2_with fail
  refine hzz.mono ?_
  rintro e w' ⟨⟨r, rfl⟩, rfl⟩
  clear hzz
  cases r
  · go_wp2
    go_ret
    exact ⟨rfl, Below.refl _ _⟩
  by_cases g0 : 65536 < a0.size
  · go_wp2
    go_ret
    exact ⟨rfl, Below.refl _ _⟩
  by_cases g1 : 65536 < a1.size
  · go_wp2
    go_ret
    exact ⟨rfl, Below.refl _ _⟩
  by_cases g2 : 65536 < a2.size
  · go_wp2
    go_ret
    exact ⟨rfl, Below.refl _ _⟩
  by_cases g3 : 65536 < b0.size
  · go_wp2
    go_ret
    exact ⟨rfl, Below.refl _ _⟩
  by_cases g4 : 65536 < b1.size
  · go_wp2
    go_ret
    exact ⟨rfl, Below.refl _ _⟩
  by_cases g5 : 65536 < b2.size
  · go_wp2
    go_ret
    exact ⟨rfl, Below.refl _ _⟩
  have q1 := key_len a0 a1 a2 (by omega) (by omega) (by omega)
  have q2 := key_len b0 b1 b2 (by omega) (by omega) (by omega)
  have q3 := key_order a0 a1 a2 b0 b1 b2
  have K1 := fun wx => key_any a0 a1 a2 wx (by omega) (by omega) (by omega)
  have K2 := fun wx => key_any b0 b1 b2 wx (by omega) (by omega) (by omega)
  generalize key a0.data.toList a1.data.toList a2.data.toList = A at *
  generalize key b0.data.toList b1.data.toList b2.data.toList = B at *
  have H1 : Hid _ := K1
  have H2 : Hid _ := K2
  have H3 : Hid _ := q3
  clear K1 K2 q3
  go_wp2_with fail
  refine (H1.out _).mono ?_
  rintro e w1 ⟨ga, capa, rfl, hga, hga', ca, hb1⟩
  go_wp2_with fail
  refine (H2.out _).mono ?_
  rintro e w2 ⟨gb, capb, rfl, hgb, hgb', cb, hb2⟩
  have hs1 := hb1.size
  have hs2 := hb2.size
  have hb12 : Below w'.heap.size w' w2 := hb1.trans (hb2.mono hs1)
  have ca2 : ∀ i, i < A.length → w2.cell? ⟨ga, i, none⟩ = some (.int .u8 (A.getD i 0)) := fun i hi => by
    rw [hb2.cell (by exact hga')]; exact ca i hi
  have H4 := cb_any ga gb A.length B.length capa capb A B w2 rfl rfl q1 q2 ca2 cb
  clear ca cb ca2 hb1 hb2
  go_wp2_with fail
  refine H4.mono ?_
  rintro e w3 ⟨rfl, n3, hw3⟩
  have hb3 : Below w'.heap.size w' w3 := hb12.trans (by rw [hw3]; exact ⟨rfl, rfl, rfl, Nat.le_refl _, fun _ _ => rfl⟩)
  have r := cmp3_range a0 a1 a2 b0 b1 b2
  have ra := cmp3_anti a0 a1 a2 b0 b1 b2
  rw [H3.out]
  clear H4 hw3 hb12
  go_wp2_with fail
  refine (cs_any _ _ _ _ _ _ _).mono ?_
  rintro e w4 ⟨rfl, rfl⟩
  go_wp2_with fail
  refine (cs_any _ _ _ _ _ _ _).mono ?_
  rintro e w5 ⟨rfl, rfl⟩
  rw [ra]
  generalize cmp3 a0 a1 a2 b0 b1 b2 = c at *
  have e1 : (-c == -c) = true := by simp
  go_wp2
  go_ret
  exact ⟨rfl, below_alloc (below_alloc (below_alloc (below_alloc (below_alloc (below_alloc hb3 _) _) _) _) _) _⟩

end Go.Proofs.Qxb6628664a
