import Derived.Test.Qxb6628591aAux
import Derived.Lib.Strings
namespace Go.Proofs.Qxb6628591a
open Go.RowKit

/-- the reply: L, '-', the text S, CR LF -/
def reply (L S : List Int) : List Int := L ++ [45] ++ S ++ [13, 10]

theorem reply_len (L S : List Int) : (reply L S).length = L.length + S.length + 3 := by simp [reply]; omega

theorem reply_left {L S : List Int} {k i : Nat} (hk : k ≤ S.length) (hi : i < L.length + 1 + k) : (reply L S).getD i 0 = (reply L (S.take k)).getD i 0 := by
  have e1 : reply L S = (L ++ [45] ++ S.take k) ++ (S.drop k ++ [13, 10]) := by
    rw [reply, ← List.append_assoc, List.append_assoc (L ++ [45]) (S.take k) (S.drop k), List.take_append_drop]
  have e2 : reply L (S.take k) = (L ++ [45] ++ S.take k) ++ [13, 10] := by rw [reply]
  have hl : i < (L ++ [45] ++ S.take k).length := by simp; omega
  rw [e1, e2, List.getD_eq_getElem?_getD, List.getD_eq_getElem?_getD, List.getElem?_append_left hl, List.getElem?_append_left hl]

theorem reply_right {L S : List Int} {k i : Nat} (hk : k ≤ S.length) : (reply L S).getD (L.length + 1 + k + i) 0 = (reply [] (S.drop k)).getD (1 + i) 0 := by
  have e1 : reply L S = (L ++ [45] ++ S.take k) ++ (S.drop k ++ [13, 10]) := by
    rw [reply, ← List.append_assoc, List.append_assoc (L ++ [45]) (S.take k) (S.drop k), List.take_append_drop]
  have e2 : reply [] (S.drop k) = [45] ++ (S.drop k ++ [13, 10]) := by simp [reply]
  have hl : (L ++ [45] ++ S.take k).length = L.length + 1 + k := by simp; omega
  have g1 : ((L ++ [45] ++ S.take k) ++ (S.drop k ++ [13, 10]))[L.length + 1 + k + i]? = (S.drop k ++ [13, 10])[i]? := by
    rw [List.getElem?_append_right (by omega), hl, show L.length + 1 + k + i - (L.length + 1 + k) = i by omega]
  have g2 : ([45] ++ (S.drop k ++ [13, 10]) : List Int)[1 + i]? = (S.drop k ++ [13, 10])[i]? := by
    rw [List.getElem?_append_right (by simp)]; simp
  rw [e1, e2, List.getD_eq_getElem?_getD, List.getD_eq_getElem?_getD, g1, g2]

theorem reply_old {L S : List Int} {i : Nat} (hi : i < L.length) : (reply L S).getD i 0 = L.getD i 0 := by
  have e1 : reply L S = L ++ ([45] ++ S ++ [13, 10]) := by simp [reply]
  rw [e1, List.getD_eq_getElem?_getD, List.getD_eq_getElem?_getD, List.getElem?_append_left hi]

theorem reply_dash (L S : List Int) : (reply L S).getD L.length 0 = 45 := by
  have e1 : reply L S = L ++ ([45] ++ S ++ [13, 10]) := by simp [reply]
  rw [e1, List.getD_eq_getElem?_getD, List.getElem?_append_right (Nat.le_refl _)]; simp

theorem reply_text {L S : List Int} {i : Nat} (hi : i < S.length) : (reply L S).getD (L.length + 1 + i) 0 = S.getD i 0 := by
  have e1 : reply L S = (L ++ [45]) ++ (S ++ [13, 10]) := by simp [reply]
  rw [e1, List.getD_eq_getElem?_getD, List.getD_eq_getElem?_getD, List.getElem?_append_right (by simp), List.getElem?_append_left (by simp; omega)]
  simp

theorem reply_cr (L S : List Int) : (reply L S).getD (L.length + S.length + 1) 0 = 13 := by
  have e1 : reply L S = (L ++ [45] ++ S) ++ [13, 10] := by simp [reply]
  have hl : (L ++ [45] ++ S).length = L.length + S.length + 1 := by simp; omega
  rw [e1, List.getD_eq_getElem?_getD, List.getElem?_append_right (by omega), hl]; simp

theorem reply_lf (L S : List Int) : (reply L S).getD (L.length + S.length + 2) 0 = 10 := by
  have e1 : reply L S = (L ++ [45] ++ S) ++ [13, 10] := by simp [reply]
  have hl : (L ++ [45] ++ S).length = L.length + S.length + 1 := by simp; omega
  rw [e1, List.getD_eq_getElem?_getD, List.getElem?_append_right (by omega), hl, show L.length + S.length + 2 - (L.length + S.length + 1) = 1 by omega]; simp

theorem rangeMap_getD (F : Nat → Int) {n i : Nat} (hi : i < n) : ((List.range n).map F).getD i 0 = F i := by
  simp [List.getD_eq_getElem?_getD, hi]

theorem san_take (s : ByteArray) (k : Nat) : san (s.extract 0 k) = (san s).take k := by
  unfold san; rw [Lib.extract_data]; simp [List.map_take]

theorem san_drop (s : ByteArray) (k : Nat) : san (s.extract k s.size) = (san s).drop k := by
  unfold san; rw [Lib.extract_data]; simp [List.map_drop]
  rw [List.take_of_length_le (by simp)]

/-- an owned row, written out -/
theorem Own.form {w : World} {base : Nat} {v : Value} {L : List Int} {n : Nat} (h : Own w base v L) (hn : L.length = n) (h0 : 0 < n) :
    ∃ g cap, v = .slice (some ⟨g, 0, none⟩) n cap ∧ base ≤ g ∧ g < w.heap.size ∧ n ≤ cap ∧ cap ≤ 9223372036854775807 ∧ ∀ i, i < n → w.cell? ⟨g, 0 + i, none⟩ = some (.int .u8 (L.getD i 0)) := by
  subst hn
  obtain ⟨h1, h2⟩ := h
  rcases h2 with ⟨_, h2⟩ | ⟨g, cap, cur, rfl, hb, hg, hc, hm, hs, ht⟩
  · omega
  · refine ⟨g, cap, rfl, hb, (Array.getElem?_eq_some_iff.1 hg).1, hc, hm, fun i hi => ?_⟩
    have e := congrArg (fun l => l[i]?) ht
    simp only [List.getElem?_take, Nat.mul_one, hi, if_true] at e
    simp only [World.cell?, hg, Nat.zero_add]
    rw [← Array.getElem?_toList, e]
    simp [List.getD_eq_getElem?_getD, hi]

end Go.Proofs.Qxb6628591a
