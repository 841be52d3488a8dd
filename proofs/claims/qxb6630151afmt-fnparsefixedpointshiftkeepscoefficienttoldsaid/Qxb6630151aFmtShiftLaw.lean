/-
  Seat b6630151aF: the plain law of the point's shift.
-/
import Derived.Test.Qxb6630151aFmtPlain
namespace Go.Proofs.Qxb6630151aFmt.Plain

/-- The coefficient with its sign. -/
def coef (L : List Int) : Int := if L.getD 0 0 = 45 then -val 0 (L.drop (start L)) else val 0 (L.drop (start L))

theorem shift_s (L : List Int) (h46 : ∀ x ∈ L, x ≠ 46) (h2 : start L < L.length) :
    parse L = if digs (L.drop (start L)) then (if 18 < L.length - start L then some none else some (some (coef L, 0))) else none := by
  unfold parse
  rw [run_plain L h46]
  by_cases hd : digs (L.drop (start L)) = true
  · rw [if_pos hd, if_pos hd]
    have h1 : ¬ ((L.length - start L) = 0 ∨ (-1 : Int) = ((L.length - start L : Nat) : Int)) := by omega
    simp only [if_neg h1]
    by_cases h18 : 18 < L.length - start L
    · rw [if_pos h18, if_pos h18]
    · rw [if_neg h18, if_neg h18]
      simp [coef]
  · rw [if_neg hd, if_neg hd]

theorem shift_t (L : List Int) (k : Nat) (h46 : ∀ x ∈ L, x ≠ 46) (h1 : start L < k) (h2 : k < L.length) :
    parse (L.take k ++ 46 :: L.drop k) = if digs (L.drop (start L)) then (if 18 < L.length - start L then some none else some (some (coef L, ((L.length - k : Nat) : Int)))) else none := by
  have hg : (L.take k ++ 46 :: L.drop k).getD 0 0 = L.getD 0 0 := by
    cases L with
    | nil => simp at h2
    | cons b L =>
      cases k with
      | zero => omega
      | succ k => simp
  have hs : start (L.take k ++ 46 :: L.drop k) = start L := by unfold start; rw [hg]
  have hb : L.drop (start L) = (L.take k).drop (start L) ++ L.drop k := by
    have := List.drop_append_of_le_length (l₁ := L.take k) (l₂ := L.drop k) (i := start L) (by simp; omega)
    rw [List.take_append_drop] at this
    exact this
  have hl : (L.take k ++ 46 :: L.drop k).drop (start (L.take k ++ 46 :: L.drop k)) = (L.take k).drop (start L) ++ 46 :: L.drop k := by
    rw [hs, List.drop_append_of_le_length (by simp; omega)]
  have hlen : ((L.take k).drop (start L)).length = k - start L := by simp; omega
  have hr := run_point (L.take k ++ 46 :: L.drop k) (k - start L) _ _ hl hlen (fun x hx => h46 x (List.mem_of_mem_take (List.mem_of_mem_drop hx)))
  unfold parse
  rw [hr, hg]
  have hdd : (digs ((L.take k).drop (start L)) && digs (L.drop k) && decide (0 < k - start L)) = digs (L.drop (start L)) := by
    rw [hb, digs_append, show decide (0 < k - start L) = true by simp; omega, Bool.and_true]
  have hvv : val (val 0 ((L.take k).drop (start L))) (L.drop k) = val 0 (L.drop (start L)) := by rw [hb, val_append]
  rw [hdd, hvv]
  by_cases hd : digs (L.drop (start L)) = true
  · rw [if_pos hd, if_pos hd]
    have h3 : ¬ (k - start L + (L.drop k).length = 0 ∨ ((k - start L : Nat) : Int) = ((k - start L + (L.drop k).length : Nat) : Int)) := by simp; omega
    simp only [if_neg h3]
    have h4 : k - start L + (L.drop k).length = L.length - start L := by simp; omega
    rw [h4]
    by_cases h18 : 18 < L.length - start L
    · rw [if_pos h18, if_pos h18]
    · rw [if_neg h18, if_neg h18]
      have h5 : (0 : Int) ≤ ((k - start L : Nat) : Int) := by omega
      have h6 : ((L.length - start L : Nat) : Int) - ((k - start L : Nat) : Int) = ((L.length - k : Nat) : Int) := by omega
      rw [if_pos h5, h6]
      simp only [coef]
  · rw [if_neg hd, if_neg hd]

end Go.Proofs.Qxb6630151aFmt.Plain
