/-
  Seat b6630020a: the plain law of the first statement: the text splits behind the first label.
-/
import Derived.Test.Qxb6630020aPlain
namespace Go.Proofs.Qxb6630020a.Plain

theorem cons_of_getD (L : List Int) (n : Int) (hL : 0 < L.length) (h : L.getD 0 0 = n) : L = n :: L.drop 1 := by
  have := drop_getD L 0 hL
  rw [h, List.drop_zero] at this
  simpa using this
theorem split_first (L : List Int) (nn : Nat) (hL : 0 < L.length) (h : L.getD 0 0 = (nn : Int)) (hn : 1 ≤ nn) : text (L.take (1 + nn)) = esc ((L.drop 1).take nn) := by
  have e := cons_of_getD L nn hL h
  rw [Nat.add_comm 1 nn]
  have e2 : L.take (nn + 1) = (nn : Int) :: (L.drop 1).take nn := by
    rw [e, List.take_succ_cons]
    rfl
  rw [e2]
  exact text_first (nn : Int) (L.drop 1) (by omega)
theorem split_whole (L : List Int) (nn : Nat) (h : L.getD 0 0 = (nn : Int)) (hn : 1 ≤ nn) (hk : 1 + nn < L.length) (hz : L.getD (1 + nn) 0 ≠ 0) :
    text L = text (L.take (1 + nn)) ++ (46 :: text (L.drop (1 + nn))) := by
  rw [split_first L nn (by omega) h hn]
  have e := cons_of_getD L nn (by omega) h
  have e3 := drop_getD L (1 + nn) hk
  have e4 : (L.drop 1).drop ((nn : Int).toNat) = L.getD (1 + nn) 0 :: L.drop (1 + nn + 1) := by rw [List.drop_drop, Int.toNat_natCast]; exact e3
  have := text_split (nn : Int) (L.drop 1) (by omega) _ _ e4 hz
  rw [← e, ← e3] at this
  exact this
theorem esc_grow (L : List Int) (j : Nat) (hj : 1 ≤ j) (hjl : j < L.length) : ((esc ((L.drop 1).take j)).length : Int) = (esc ((L.drop 1).take (j - 1))).length + width (L.getD j 0) := by
  obtain ⟨i, rfl⟩ : ∃ i, j = i + 1 := ⟨j - 1, by omega⟩
  have e : (L.drop 1).take (i + 1) = (L.drop 1).take i ++ [L.getD (i + 1) 0] := by
    rw [List.take_add_one]
    congr 1
    simp [hjl]
  rw [e, esc_snoc, Nat.add_sub_cancel]

end Go.Proofs.Qxb6630020a.Plain
