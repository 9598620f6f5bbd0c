import Derived.Test.Qxb6628591aSplitWalk
import Derived.Laws.BytesArg
namespace Go.Proofs.Qxb6628591a
open Go.RowKit

theorem sanC_byte (c : UInt8) : UInt8.toNat (UInt8.ofNat (sanC c).toNat) = (sanC c).toNat := by
  have h : c.toNat < 256 := c.toNat_lt
  unfold sanC
  split <;> simp <;> omega

theorem sanC_idem (c : UInt8) : sanC (UInt8.ofNat (sanC c).toNat) = sanC c := by
  have e := sanC_byte c
  have h13 : ¬ (sanC c = 13 ∨ sanC c = 10) := by unfold sanC; split <;> simp_all
  have h0 : 0 ≤ sanC c := by unfold sanC; split <;> omega
  generalize sanC c = x at *
  unfold sanC
  rw [e, if_neg (by omega)]; omega

theorem san_idem (s : ByteArray) : san (strOfNums (san s)) = san s := by
  unfold san
  rw [strOfNums_data, List.map_map, List.map_map]
  exact List.map_congr_left fun c _ => sanC_idem c

theorem san_getD (s : ByteArray) (k : Nat) (h : k < s.size) : (san s).getD k 0 = sanC s[k] := by
  unfold san
  rw [List.getD_eq_getElem?_getD, List.getElem?_map, List.getElem?_eq_getElem (by simpa using h)]
  rfl

set_option maxHeartbeats 1000000 in
theorem line_walk (a : Option Addr) (len cap : Nat) (msg : ByteArray) (F : Nat → Int) (w : World) (hlen : len ≤ 9223372036854775807) (h0 : a = none → len = 0 ∧ cap = 0) (hm : msg.size ≤ 9223372036854775807) (hB : Bts w a len F) :
    Calls Try.prog 4 #[.slice a len cap, .string msg] w fun e w' => e = .returned (.bool true) ∧ Below w.heap.size w w' := by
  have hzz := zz9_any a len cap msg w hlen hm
  go_enter Try.func4, Try.ntmps4
  go_wp2_with fail
  refine hzz.mono ?_
  rintro e w' ⟨⟨r, rfl⟩, rfl⟩
  clear hzz
  cases r
  · go_wp2
    go_ret
    exact ⟨rfl, Below.refl _ _⟩
  by_cases hbig : 524288 < len
  · go_wp2
    go_ret
    exact ⟨rfl, Below.refl _ _⟩
  by_cases hmb : 524288 < msg.size
  · go_wp2
    go_ret
    exact ⟨rfl, Below.refl _ _⟩
  go_wp2_with fail
  refine (clone_any a len cap F _ (by omega) h0 hB).mono ?_
  rintro e w1 ⟨v1, rfl, hown1, hb1⟩
  go_wp2_with fail
  have hL : ((List.range len).map F).length = len := by simp
  refine (ae_rep w'.heap.size v1 _ len msg msg.size (san msg) _ hL rfl rfl (by omega) hown1 hb1.size).mono ?_
  rintro e w2 ⟨g1, cap1, rfl, hg1, hg1', hc1, hc1', hcell1, hb2⟩
  have hb2 := hb1.trans hb2
  have hB2 := hB.below hb2 (Nat.le_refl _)
  clear hown1 hb1
  have H10 := same_any (some ⟨g1, 0, none⟩) a len cap1 cap (fun i => (reply ((List.range len).map F) (san msg)).getD i 0) F w2 (by omega) (.inr ⟨g1, 0, rfl, by omega, fun i hi => hcell1 i (by omega)⟩) hB2 (fun i hi => by
        show (reply ((List.range len).map F) (san msg)).getD i 0 = F i
        rw [reply_old (by rw [hL]; exact hi), rangeMap_getD F hi])
  go_wp2_with fail
  refine H10.mono ?_
  rintro e w3 ⟨rfl, m3, hw3⟩
  have hh3 : w3.heap = w2.heap := by rw [hw3]; rfl
  have hb3 : Below w'.heap.size w' w3 := hb2.trans (by rw [hw3]; exact ⟨rfl, rfl, rfl, Nat.le_refl _, fun _ _ => rfl⟩)
  have hcell : ∀ i, i < len + msg.size + 3 → w3.cell? ⟨g1, i, none⟩ = some (.int .u8 ((reply ((List.range len).map F) (san msg)).getD i 0)) := fun i hi => by
    have := hcell1 i hi
    rw [Nat.zero_add] at this
    simpa only [World.cell?, hh3] using this
  have hg3 : g1 < w3.heap.size := by rw [hh3]; exact hg1'
  have c45 : w3.cell? ⟨g1, len, none⟩ = some (.int .u8 45) := by
    have := hcell len (by omega)
    have e := reply_dash ((List.range len).map F) (san msg)
    rw [hL] at e
    rw [e] at this; exact this
  have c13 : w3.cell? ⟨g1, len + msg.size + 1, none⟩ = some (.int .u8 13) := by
    have := hcell (len + msg.size + 1) (by omega)
    have e := reply_cr ((List.range len).map F) (san msg)
    rw [hL, san_len] at e
    rw [e] at this; exact this
  have c10 : w3.cell? ⟨g1, len + msg.size + 2, none⟩ = some (.int .u8 10) := by
    have := hcell (len + msg.size + 2) (by omega)
    have e := reply_lf ((List.range len).map F) (san msg)
    rw [hL, san_len] at e
    rw [e] at this; exact this
  have hct : ∀ i (h : i < msg.size), w3.cell? ⟨g1, len + 1 + i, none⟩ = some (.int .u8 (sanC msg[i])) := fun i h => by
    have := hcell (len + 1 + i) (by omega)
    have e := reply_text (L := (List.range len).map F) (S := san msg) (i := i) (by rw [san_len]; exact h)
    rw [hL, san_getD msg i h] at e
    rw [e] at this; exact this
  have hB3 := hB2.of_heap hh3
  clear hcell1 hB2 hb2 hw3 H10 hB hh3
  have HC : Hid (∀ i, i < len + msg.size + 3 → w3.cell? ⟨g1, i, none⟩ = some (.int .u8 ((reply ((List.range len).map F) (san msg)).getD i 0))) := hcell
  have HT : Hid (∀ i (h : i < msg.size), w3.cell? ⟨g1, len + 1 + i, none⟩ = some (.int .u8 (sanC msg[i]))) := hct
  clear hcell hct
  go_wp2
  go_loop [6] (fun i => ∃ j : Nat, j ≤ msg.size ∧ i = .int .i64 j) (fun i => msg.size - (intOf i).toNat)
  case atStart => exact ⟨0, by omega, rfl⟩
  case round =>
    obtain ⟨j, hj, rfl⟩ := hrel
    by_cases hlt : j < msg.size
    · have hcj := HT.out j hlt
      clear c45 c13 c10 hB3
      by_cases h13 : ((msg[j].toNat : Int) == 13) = true
      · rw [show sanC msg[j] = 32 by unfold sanC; rw [if_pos (Or.inl (by simpa using h13))]] at hcj
        go_wp2
        go_round
        case rel => exact ⟨j + 1, by omega, by go_num⟩
        case measure => simp [intOf]; omega
      · have h13' : ((msg[j].toNat : Int) == 13) = false := by simpa using h13
        by_cases h10 : ((msg[j].toNat : Int) == 10) = true
        · rw [show sanC msg[j] = 32 by unfold sanC; rw [if_pos (Or.inr (by simpa using h10))]] at hcj
          clear h13
          go_wp2
          go_round
          case rel => exact ⟨j + 1, by omega, by go_num⟩
          case measure => simp [intOf]; omega
        · have h10' : ((msg[j].toNat : Int) == 10) = false := by simpa using h10
          rw [show sanC msg[j] = msg[j].toNat by unfold sanC; rw [if_neg (fun h => h.elim (fun h => h13 (by simpa using h)) (fun h => h10 (by simpa using h)))]] at hcj
          clear h13 h10
          go_wp2
          go_round
          case rel => exact ⟨j + 1, by omega, by go_num⟩
          case measure => simp [intOf]; omega
    · have hcv : ∀ c, (convert 22 9 (.slice (some ⟨g1, len + 1, none⟩) msg.size c)).run Try.prog w3 = .ok (.string (strOfNums (san msg))) w3 := fun c =>
        run_convert_bytes_arg w3 22 5 Try.underlying22 Try.underlying5 g1 (len + 1) msg.size c (san msg) (san_len msg) (fun i hi => by rw [san_getD msg i hi]; exact HT.out i hi) 9 Try.underlying9
      clear c45 c13 c10
      have i1 : len + 1 < cap1 := by omega
      go_wp2_with fail
      refine (clone_any a len cap F _ (by omega) h0 hB3).mono ?_
      rintro e w4 ⟨v4, rfl, hown4, hb4⟩
      go_wp2_with fail
      refine (ae_rep w3.heap.size v4 _ len _ msg.size (san msg) _ hL (by rw [strOfNums_size, san_len]) (san_idem msg) (by omega) hown4 hb4.size).mono ?_
      rintro e w5 ⟨g2, cap2, rfl, hg2, hg2', hc2, hc2', hcell2, hb5⟩
      have hb35 := hb4.trans hb5
      have hs := hb35.size
      have H30 := same_any (some ⟨g2, 0, none⟩) (some ⟨g1, 0, none⟩) (len + msg.size + 3) cap2 cap1 (fun i => (reply ((List.range len).map F) (san msg)).getD i 0) (fun i => (reply ((List.range len).map F) (san msg)).getD i 0) w5 (by omega)
        (.inr ⟨g2, 0, rfl, by omega, fun i hi => hcell2 i hi⟩) (.inr ⟨g1, 0, rfl, by omega, fun i hi => by rw [hb35.cell (by exact hg3), Nat.zero_add]; exact HC.out i hi⟩) (fun i hi => rfl)
      have hbel : Below w'.heap.size w' w5 := hb3.trans (hb35.mono hb3.size)
      clear hcv hown4 hb4 hb5 hcell2
      go_wp2_with fail
      refine H30.mono ?_
      rintro e w6 ⟨rfl, m6, rfl⟩
      go_wp2
      go_ret
      exact ⟨rfl, hbel.trans ⟨rfl, rfl, rfl, Nat.le_refl _, fun _ _ => rfl⟩⟩

end Go.Proofs.Qxb6628591a
