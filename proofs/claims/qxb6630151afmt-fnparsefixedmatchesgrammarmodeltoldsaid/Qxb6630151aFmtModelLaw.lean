/-
  Seat b6630151aF: the plain law of the grammar's model.
-/
import Derived.Test.Qxb6630151aFmtPlain
namespace Go.Proofs.Qxb6630151aFmt.Plain

/-- How the model cuts the body: whole part P, fraction Q, dot's place (-1: none). -/
def Cut (L P Q : List Int) (dd : Int) : Prop :=
  (dd = -1 ∧ L.drop (start L) = P ∧ Q = [] ∧ ∀ x ∈ P, x ≠ 46) ∨ (dd = P.length ∧ L.drop (start L) = P ++ 46 :: Q ∧ ∀ x ∈ P, x ≠ 46)
def valid (P Q : List Int) (dd : Int) : Bool := decide (0 < P.length) && digs P && digs Q && (decide (dd < 0) || decide (0 < Q.length))
def sgn (L : List Int) (v : Int) : Int := if start L = 1 then -v else v

theorem sgn_eq (L : List Int) (v : Int) : (if L.getD 0 0 = 45 then -v else v) = sgn L v := by
  unfold sgn start
  by_cases h : L.getD 0 0 = 45
  · rw [if_pos h, if_pos h, if_pos rfl]
  · rw [if_neg h, if_neg h, if_neg (by omega)]

theorem not_mem_sign (L P : List Int) (h : L.drop (start L) = P) (hP : ∀ x ∈ P, x ≠ 46) : ∀ x ∈ L, x ≠ 46 := by
  intro x hx
  rw [← List.take_append_drop (start L) L, h] at hx
  rcases List.mem_append.1 hx with h1 | h1
  · unfold start at h1
    split at h1
    · rename_i h45
      cases L with
      | nil => simp at h45
      | cons b L => simp at h1 h45; omega
    · simp at h1
  · exact hP x h1

theorem model_law (L P Q : List Int) (dd : Int) (h : Cut L P Q dd) :
    parse L = if valid P Q dd then (if 18 < P.length + Q.length then some none else some (some (sgn L (val 0 (P ++ Q)), (Q.length : Int)))) else none := by
  rcases h with ⟨rfl, hb, rfl, h46⟩ | ⟨hdd, hb, h46⟩
  · unfold parse
    rw [run_plain L (not_mem_sign L P hb h46), hb]
    have hlen : L.length - start L = P.length := by rw [← hb]; simp
    rw [hlen, List.append_nil]
    have hv : valid P [] (-1) = (decide (0 < P.length) && digs P) := by simp [valid, digs]
    rw [hv]
    by_cases hd : digs P = true
    · rw [if_pos hd, hd]
      by_cases h0 : P.length = 0
      · simp [h0]
      · have h1 : ¬ (P.length = 0 ∨ (-1 : Int) = (P.length : Int)) := by omega
        simp only [if_neg h1]
        rw [if_pos (show (decide (0 < P.length) && true) = true by simp; omega)]
        by_cases h18 : 18 < P.length
        · rw [if_pos h18, if_pos (by simpa using h18)]
        · rw [if_neg h18, sgn_eq, if_neg (show ¬ 18 < P.length + ([] : List Int).length by simpa using h18)]
          simp
    · rw [if_neg hd]
      simp [hd]
  · subst hdd
    unfold parse
    rw [run_point L P.length P Q hb rfl h46]
    have hv : valid P Q (P.length : Int) = (digs P && digs Q && decide (0 < P.length) && decide (0 < Q.length)) := by
      have : decide ((P.length : Int) < 0) = false := decide_eq_false (by omega)
      simp only [valid, this, Bool.false_or]
      cases digs P <;> cases digs Q <;> cases decide (0 < P.length) <;> rfl
    rw [hv]
    by_cases hd : (digs P && digs Q && decide (0 < P.length)) = true
    · rw [if_pos hd, hd]
      have hp : 0 < P.length := by simp at hd; omega
      by_cases hq : 0 < Q.length
      · have h1 : ¬ (P.length + Q.length = 0 ∨ (P.length : Int) = ((P.length + Q.length : Nat) : Int)) := by omega
        simp only [if_neg h1]
        rw [if_pos (show (true && decide (0 < Q.length)) = true by simp; omega), val_append]
        by_cases h18 : 18 < P.length + Q.length
        · rw [if_pos h18, if_pos h18]
        · rw [if_neg h18, if_neg h18, sgn_eq, if_pos (show (0 : Int) ≤ (P.length : Int) by omega), show ((P.length + Q.length : Nat) : Int) - (P.length : Int) = (Q.length : Int) by omega]
      · have h1 : (P.length + Q.length = 0 ∨ (P.length : Int) = ((P.length + Q.length : Nat) : Int)) := by omega
        simp only [if_pos h1]
        rw [show decide (0 < Q.length) = false from decide_eq_false hq]
        rfl
    · rw [if_neg hd]
      have hd' : (digs P && digs Q && decide (0 < P.length)) = false := by simpa using hd
      rw [hd']
      simp

/-! The coefficient from the right. -/
theorem val_shift (l : List Int) : ∀ v : Int, val v l = v * 10 ^ l.length + val 0 l := by
  induction l with
  | nil => intro v; simp [val]
  | cons b l ih =>
    intro v
    rw [val_cons, val_cons, ih, ih (0 * 10 + (b - 48)), List.length_cons, Int.pow_succ]
    have : (v * 10 + (b - 48)) * 10 ^ l.length = v * (10 ^ l.length * 10) + (b - 48) * 10 ^ l.length := by
      rw [Int.add_mul, Int.mul_assoc, Int.mul_comm 10 (10 ^ l.length)]
    rw [this]
    simp only [Int.zero_mul, Int.zero_add]
    omega
theorem val_head (b : Int) (l : List Int) : val 0 (b :: l) = (b - 48) * 10 ^ l.length + val 0 l := by
  rw [val_cons, val_shift]; simp
theorem val_bd (l : List Int) (h : digs l = true) : 0 ≤ val 0 l ∧ val 0 l < 10 ^ l.length := by
  induction l with
  | nil => simp [val]
  | cons b l ih =>
    simp only [digs, List.all_cons, Bool.and_eq_true] at h
    have hb := (isDig_iff b).1 h.1
    have := ih h.2
    rw [val_head, List.length_cons, Int.pow_succ]
    have hp : (0 : Int) < 10 ^ l.length := Int.pow_pos (by omega)
    have h1 : 0 ≤ (b - 48) * 10 ^ l.length := Int.mul_nonneg (by omega) (by omega)
    have h2 : (b - 48) * 10 ^ l.length ≤ 9 * 10 ^ l.length := Int.mul_le_mul_of_nonneg_right (by omega) (by omega)
    omega
/-- One round of the sum from the right. -/
theorem val_round (A : List Int) (i : Nat) (h : i < A.length) : val 0 (A.drop i) = val 0 (A.drop (i + 1)) + (A.getD i 0 - 48) * 10 ^ (A.length - (i + 1)) := by
  rw [List.drop_eq_getElem_cons h, val_head, List.length_drop]
  have : A[i] = A.getD i 0 := by simp [h]
  rw [this]; omega

end Go.Proofs.Qxb6630151aFmt.Plain
