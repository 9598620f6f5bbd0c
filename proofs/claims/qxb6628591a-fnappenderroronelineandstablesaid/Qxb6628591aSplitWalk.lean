import Derived.Test.Qxb6628591aPlain
import Derived.Deep.RegionWith
namespace Go.Proofs.Qxb6628591a
open Go.RowKit

/-- It answers some bool. -/
def SomeBool (e : Ending) : Prop := ∃ r : Bool, e = .returned (.bool r)

theorem zz5_any (a : Option Addr) (len cap : Nat) (msg : ByteArray) (k : Int) (w : World) (hlen : len ≤ 9223372036854775807) (hm : msg.size ≤ 9223372036854775807) :
    Calls Try.prog 5 #[.slice a len cap, .string msg, .int .i64 k] w fun e w' => SomeBool e ∧ w' = w := by
  go_enter Try.func5, Try.ntmps5
  go_wp2
  all_goals
    go_ret
    exact ⟨⟨_, rfl⟩, rfl⟩

theorem zz9_any (a : Option Addr) (len cap : Nat) (msg : ByteArray) (w : World) (hlen : len ≤ 9223372036854775807) (hm : msg.size ≤ 9223372036854775807) :
    Calls Try.prog 9 #[.slice a len cap, .string msg] w fun e w' => SomeBool e ∧ w' = w := by
  go_enter Try.func9, Try.ntmps9
  go_wp2
  all_goals
    go_ret
    exact ⟨⟨_, rfl⟩, rfl⟩

theorem ae_rep (base : Nat) (v : Value) (L : List Int) (l : Nat) (msg : ByteArray) (n : Nat) (S : List Int) (w : World) (hl : L.length = l) (hn : msg.size = n) (hS : san msg = S) (hsz : l + n ≤ 1073741824) (hown : Own w base v L) (hbase : base ≤ w.heap.size) :
    Calls Try.prog 6 #[v, .string msg] w fun e w' => ∃ g cap, e = .returned (.slice (some ⟨g, 0, none⟩) (l + n + 3) cap) ∧ base ≤ g ∧ g < w'.heap.size ∧ l + n + 3 ≤ cap ∧ cap ≤ 9223372036854775807 ∧
      (∀ i, i < l + n + 3 → w'.cell? ⟨g, 0 + i, none⟩ = some (.int .u8 ((reply L S).getD i 0))) ∧ Below base w w' := by
  subst hl hn hS
  refine (ae_any base v L msg w hsz hown hbase).mono ?_
  rintro e w' ⟨v', rfl, hown', hb⟩
  have h : Own w' base v' (reply L (san msg)) := hown'
  obtain ⟨g, cap, rfl, h1, h2, h3, h4, h5⟩ := h.form (n := L.length + msg.size + 3) (by rw [reply_len, san_len]) (by omega)
  exact ⟨g, cap, rfl, h1, h2, h3, h4, h5, hb⟩

theorem Bts.of_heap {w wx : World} {a : Option Addr} {len : Nat} {F : Nat → Int} (h : wx.heap = w.heap) (hB : Bts w a len F) : Bts wx a len F := by
  rcases hB with h0 | ⟨b, off, ha, hlt, hc⟩
  · exact .inl h0
  · refine .inr ⟨b, off, ha, by rw [h]; exact hlt, fun i hi => ?_⟩
    have := hc i hi
    simpa only [World.cell?, h] using this

set_option maxHeartbeats 1000000 in
theorem split_walk (a : Option Addr) (len cap : Nat) (msg : ByteArray) (k : Int) (F : Nat → Int) (w : World) (hlen : len ≤ 9223372036854775807) (h0 : a = none → len = 0 ∧ cap = 0) (hm : msg.size ≤ 9223372036854775807) (hB : Bts w a len F) :
    Calls Try.prog 3 #[.slice a len cap, .string msg, .int .i64 k] w fun e w' => e = .returned (.bool true) ∧ Below w.heap.size w w' := by
  have hzz := zz5_any a len cap msg k w hlen hm
  go_enter Try.func3, Try.ntmps3
  go_wp2_with fail
  refine hzz.mono ?_
  rintro e w' ⟨⟨r, rfl⟩, rfl⟩
  clear hzz
  cases r
  · go_wp2
    go_ret
    exact ⟨rfl, Below.refl _ _⟩
  by_cases hbig : 524288 < len
  · go_wp2
    go_ret
    exact ⟨rfl, Below.refl _ _⟩
  by_cases hmb : 524288 < msg.size
  · go_wp2
    go_ret
    exact ⟨rfl, Below.refl _ _⟩
  by_cases hk0 : k < 0
  · go_wp2
    go_ret
    exact ⟨rfl, Below.refl _ _⟩
  by_cases hkl : (msg.size : Int) < k
  · go_wp2
    go_ret
    exact ⟨rfl, Below.refl _ _⟩
  obtain ⟨kn, rfl⟩ := Int.eq_ofNat_of_zero_le (show 0 ≤ k by omega)
  have hkn : kn ≤ msg.size := by omega
  go_wp2_with fail
  refine (clone_any a len cap F _ (by omega) h0 hB).mono ?_
  rintro e w1 ⟨v1, rfl, hown1, hb1⟩
  go_wp2_with fail
  have hL : ((List.range len).map F).length = len := by simp
  refine (ae_rep w'.heap.size v1 _ len msg msg.size (san msg) _ hL rfl rfl (by omega) hown1 hb1.size).mono ?_
  rintro e w2 ⟨g1, cap1, rfl, hg1, hg1', hc1, hc1', hcell1, hb2⟩
  have hb2 := hb1.trans hb2
  have hB2 := hB.below hb2 (Nat.le_refl _)
  have hex : (msg.extract 0 kn).size = kn := by simp; omega
  have hey : (msg.extract kn msg.size).size = msg.size - kn := by simp
  have HX : Hid ((msg.extract 0 kn).size = kn) := hex
  have HY : Hid ((msg.extract kn msg.size).size = msg.size - kn) := hey
  clear hown1 hb1 hex hey
  have hki : (0 : Int) ≤ (kn : Int) := by omega
  have hkj : (kn : Int) ≤ (msg.size : Int) := by omega
  go_wp2
  go_region_with (first
    | (go_at_call 7; refine (clone_any a len cap F _ (by omega) h0 ?_).mono ?_; exact hB2.below ((Below.refl _ _).drew) (Nat.le_refl _); rintro e w3 ⟨v3, rfl, hown3, hb3⟩)
    | (go_at_call 6; refine (ae_rep w2.heap.size v3 _ len _ kn ((san msg).take kn) _ hL HX.out (san_take _ _) (by omega) hown3 hb3.size).mono ?_; rintro e w4 ⟨g2, cap2, rfl, hg2, hg2', hc2, hc2', hcell2, hb4⟩))
  have hb24 : Below w2.heap.size w2 w4 := ((Below.refl w2.heap.size w2).drew.trans hb3).trans hb4
  clear hb3 hb4 hown3 h0
  go_wp2_with fail
  refine (ae_rep w4.heap.size (.slice none 0 0) [] 0 _ (msg.size - kn) ((san msg).drop kn) _ rfl HY.out (san_drop _ _) (by omega) (World.ownsRow_nil _ _ _ _) (Nat.le_refl _)).mono ?_
  rintro e w5 ⟨g3, cap3, rfl, hg3, hg3', hc3, hc3', hcell3, hb5⟩
  have hs2 := hb2.size
  have hs4 := hb24.size
  have hs5 := hb5.size
  have hbel : Below w'.heap.size w' w5 := (hb2.trans (hb24.mono (by omega))).trans (hb5.mono (by omega))
  have hBa := hB.below hbel (Nat.le_refl _)
  have hcA : ∀ i, i < len + msg.size + 3 → w5.cell? ⟨g1, 0 + i, none⟩ = some (.int .u8 ((reply ((List.range len).map F) (san msg)).getD i 0)) := fun i hi => by
    rw [hb5.cell (by show g1 < _; omega), hb24.cell (by show g1 < _; omega)]; exact hcell1 i hi
  have hcB : ∀ i, i < len + kn + 3 → w5.cell? ⟨g2, 0 + i, none⟩ = some (.int .u8 ((reply ((List.range len).map F) ((san msg).take kn)).getD i 0)) := fun i hi => by
    rw [hb5.cell (by show g2 < _; omega)]; exact hcell2 i hi
  clear hcell1 hcell2 hb5 hb24 hb2 hB2 hB
  obtain ⟨nn, hn1, hn2⟩ : ∃ nn : Nat, len + kn + 1 ≤ nn ∧ nn ≤ len + kn + 1 := ⟨_, Nat.le_refl _, Nat.le_refl _⟩
  have hq68 : ((↑(msg.size - kn) : Int) + 3 != (msg.size : Int) - (kn : Int) + 3) = false := by simp; omega
  go_wp2
  rw [show (len : Int) + (kn : Int) + 3 - 2 = (nn : Int) by omega]
  have i1 : (0 : Int) ≤ (nn : Int) := by omega
  have i2 : (nn : Int) ≤ (cap1 : Int) := by omega
  have i3 : (nn : Int) ≤ (cap2 : Int) := by omega
  have i4 : nn < cap1 := by omega
  have i5 : (1 : Int) ≤ (cap3 : Int) := by omega
  have H19 : Hid (∀ wx : World, wx.heap = w5.heap → Calls Try.prog 8 #[.slice (some ⟨g1, 0, none⟩) nn cap1, .slice (some ⟨g2, 0, none⟩) nn cap2] wx fun e w' => e = .returned (.bool true) ∧ ∃ m, w' = wx.drewN m) := fun wx hx =>
    same_any _ _ nn _ _ (fun i => (reply ((List.range len).map F) (san msg)).getD i 0) (fun i => (reply ((List.range len).map F) ((san msg).take kn)).getD i 0) _ (by omega)
      (Bts.of_heap hx (.inr ⟨g1, 0, rfl, by omega, fun i hi => hcA i (by omega)⟩)) (Bts.of_heap hx (.inr ⟨g2, 0, rfl, by omega, fun i hi => hcB i (by omega)⟩))
      (fun i hi => reply_left (by rw [san_len]; exact hkn) (by rw [hL]; omega))
  go_quiet ((go_at_call 8; go_must (exact Calls.quiet_of (H19.out _ rfl))))
  clear H19
  go_wp2
  have hw6 : (w5.drewN nq).heap = w5.heap := rfl
  have hbel6 : Below w'.heap.size w' (w5.drewN nq) := hbel.trans ⟨rfl, rfl, rfl, Nat.le_refl _, fun _ _ => rfl⟩
  generalize w5.drewN nq = w6 at hw6 hbel6 ⊢
  have H21 : Hid (∀ wx : World, wx.heap = w6.heap → Calls Try.prog 8 #[.slice (some ⟨g1, nn, none⟩) (len + msg.size + 3 - nn) (cap1 - nn), .slice (some ⟨g3, 1, none⟩) (msg.size - kn + 2) (cap3 - 1)] wx fun e w' => e = .returned (.bool true) ∧ ∃ m, w' = wx.drewN m) := fun wx hx => by
    rw [show msg.size - kn + 2 = len + msg.size + 3 - nn by omega]
    exact same_any _ _ _ _ _ (fun i => (reply ((List.range len).map F) (san msg)).getD (nn + i) 0) (fun i => (reply [] ((san msg).drop kn)).getD (1 + i) 0) _ (by omega)
      (Bts.of_heap (hx.trans hw6) (.inr ⟨g1, nn, rfl, by omega, fun i hi => by have := hcA (nn + i) (by omega); rwa [Nat.zero_add] at this⟩)) (Bts.of_heap (hx.trans hw6) (.inr ⟨g3, 1, rfl, by omega, fun i hi => by have := hcell3 (1 + i) (by omega); rwa [Nat.zero_add] at this⟩))
      (fun i hi => by
        have := reply_right (L := (List.range len).map F) (S := san msg) (k := kn) (i := i) (by rw [san_len]; exact hkn)
        rw [hL, show len + 1 + kn = nn by omega] at this; exact this)
  have H23 : Hid (∀ wx : World, wx.heap = w6.heap → Calls Try.prog 8 #[.slice (some ⟨g1, 0, none⟩) len cap1, .slice a len cap] wx fun e w' => e = .returned (.bool true) ∧ ∃ m, w' = wx.drewN m) := fun wx hx =>
    same_any _ _ _ _ _ (fun i => (reply ((List.range len).map F) (san msg)).getD i 0) F _ (by omega)
      (Bts.of_heap (hx.trans hw6) (.inr ⟨g1, 0, rfl, by omega, fun i hi => hcA i (by omega)⟩)) (Bts.of_heap (hx.trans hw6) hBa)
      (fun i hi => by
        show (reply ((List.range len).map F) (san msg)).getD i 0 = F i
        rw [reply_old (by rw [hL]; exact hi), rangeMap_getD F hi])
  have c45 : w6.cell? ⟨g1, len, none⟩ = some (.int .u8 45) := by
    have := hcA len (by omega)
    have e := reply_dash ((List.range len).map F) (san msg)
    rw [hL] at e
    rw [e, Nat.zero_add] at this
    simpa only [World.cell?, hw6] using this
  have c13 : w6.cell? ⟨g1, len + msg.size + 1, none⟩ = some (.int .u8 13) := by
    have := hcA (len + msg.size + 1) (by omega)
    have e := reply_cr ((List.range len).map F) (san msg)
    rw [hL, san_len] at e
    rw [e, Nat.zero_add] at this
    simpa only [World.cell?, hw6] using this
  have c10 : w6.cell? ⟨g1, len + msg.size + 2, none⟩ = some (.int .u8 10) := by
    have := hcA (len + msg.size + 2) (by omega)
    have e := reply_lf ((List.range len).map F) (san msg)
    rw [hL, san_len] at e
    rw [e, Nat.zero_add] at this
    simpa only [World.cell?, hw6] using this
  clear hcA hcB hcell3 hBa hbel hw6
  go_quiet ((go_at_call 8; go_must (exact Calls.quiet_of (H21.out _ rfl))))
  clear H21
  go_wp2_with fail
  refine (H23.out (w6.drewN nq) rfl).mono ?_
  rintro e w7 ⟨rfl, m7, rfl⟩
  go_wp2
  go_ret
  exact ⟨rfl, hbel6.trans ⟨rfl, rfl, rfl, Nat.le_refl _, fun _ _ => rfl⟩⟩

end Go.Proofs.Qxb6628591a
