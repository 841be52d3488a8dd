/-
  Plain mathematics for seat b6630151aF: ParseFixed as a machine over bytes (Ints). No Go in sight.
-/
namespace Go.Proofs.Qxb6630151aFmt.Plain

/-- ParseFixed's state: the coefficient so far, the count of digits, the digits before the point (-1: no point yet). -/
structure St where
  v : Int
  n : Nat
  wh : Int
def isDig (b : Int) : Bool := decide (48 ≤ b) && decide (b ≤ 57)
/-- One byte, at index i. -/
def step (i : Nat) (st : St) (b : Int) : Option St :=
  if isDig b then some ⟨st.v * 10 + (b - 48), st.n + 1, st.wh⟩
  else if b = 46 ∧ st.wh < 0 ∧ 0 < st.n then some ⟨st.v, st.n, st.n⟩
  else if b = 45 ∧ i = 0 then some st
  else none
def run : Nat → St → List Int → Option St
  | _, st, [] => some st
  | i, st, b :: r => match step i st b with
    | none => none
    | some st' => run (i + 1) st' r
def st0 : St := ⟨0, 0, -1⟩
/-- How ParseFixed ends: none: an error; else (fits, coefficient, places). -/
def parse (l : List Int) : Option (Option (Int × Int)) :=
  match run 0 st0 l with
  | none => none
  | some st => if st.n = 0 ∨ st.wh = st.n then none else if 18 < st.n then some none else some (some (if l.getD 0 0 = 45 then -st.v else st.v, if 0 ≤ st.wh then st.n - st.wh else 0))

def val (v : Int) (l : List Int) : Int := l.foldl (fun a b => a * 10 + (b - 48)) v
def digs (l : List Int) : Bool := l.all isDig

theorem isDig_iff (b : Int) : isDig b = true ↔ 48 ≤ b ∧ b ≤ 57 := by simp [isDig]
theorem isDig_not (b : Int) : isDig b = false ↔ ¬ (48 ≤ b ∧ b ≤ 57) := by
  rw [← isDig_iff]; simp

theorem run_append (a : List Int) : ∀ (i : Nat) (st : St) (b : List Int), run i st (a ++ b) = match run i st a with | none => none | some st' => run (i + a.length) st' b := by
  induction a with
  | nil => intro i st b; simp [run]
  | cons x a ih =>
    intro i st b
    simp only [List.cons_append, run]
    cases h : step i st x with
    | none => rfl
    | some st' =>
      simp only
      rw [ih, List.length_cons, show i + 1 + a.length = i + (a.length + 1) by omega]

theorem val_nil (v : Int) : val v [] = v := rfl
theorem val_cons (v b : Int) (l : List Int) : val v (b :: l) = val (v * 10 + (b - 48)) l := rfl
theorem val_append (v : Int) (a b : List Int) : val v (a ++ b) = val (val v a) b := by simp [val]

/-- Where no point can be taken: digits, or an error. -/
theorem run_digs (l : List Int) : ∀ (i : Nat) (st : St), (0 ≤ st.wh ∨ ∀ x ∈ l, x ≠ 46) → (0 < i ∨ l.getD 0 0 ≠ 45) →
    run i st l = if digs l then some ⟨val st.v l, st.n + l.length, st.wh⟩ else none := by
  induction l with
  | nil => intro i st _ _; simp [run, digs, val]
  | cons b l ih =>
    intro i st h1 h2
    simp only [run]
    cases hb : isDig b with
    | true =>
      simp only [step, hb, if_true]
      rw [ih (i + 1) _ (by
        rcases h1 with h1 | h1
        · exact .inl h1
        · exact .inr fun x hx => h1 x (by simp [hx])) (.inl (by omega))]
      have hd : digs (b :: l) = digs l := by simp [digs, hb]
      rw [hd, val_cons, List.length_cons]
      by_cases hl : digs l = true
      · rw [if_pos hl, if_pos hl, show st.n + 1 + l.length = st.n + (l.length + 1) by omega]
      · rw [if_neg hl, if_neg hl]
    | false =>
      have h46 : ¬ (b = 46 ∧ st.wh < 0 ∧ 0 < st.n) := by
        rintro ⟨h, h', _⟩
        rcases h1 with h1 | h1
        · omega
        · exact h1 b (by simp) h
      have h45 : ¬ (b = 45 ∧ i = 0) := by
        rintro ⟨h, h'⟩
        rcases h2 with h2 | h2
        · omega
        · simp at h2; exact h2 h
      simp [step, hb, h46, h45, digs]

theorem take_snoc (S : List Int) (n : Nat) (h : n < S.length) : S.take (n + 1) = S.take n ++ [S.getD n 0] := by
  rw [List.take_add_one]; congr 1; simp [h]
theorem digs_append (a b : List Int) : digs (a ++ b) = (digs a && digs b) := by simp [digs]

/-- The sign: its length. -/
def start (l : List Int) : Nat := if l.getD 0 0 = 45 then 1 else 0
theorem start_le (l : List Int) : start l ≤ l.length := by
  unfold start
  split
  · rename_i h
    cases l with
    | nil => simp at h
    | cons => simp
  · omega
theorem run_sign (l : List Int) : run 0 st0 l = run (start l) st0 (l.drop (start l)) := by
  unfold start
  split
  · rename_i h
    cases l with
    | nil => simp at h
    | cons b l =>
      simp at h
      subst h
      simp [run, step, isDig]
  · rfl
theorem body_head (l : List Int) : 0 < start l ∨ (l.drop (start l)).getD 0 0 ≠ 45 := by
  unfold start
  split
  · exact .inl (by omega)
  · rename_i h
    exact .inr (by simpa using h)

/-- No point in the text. -/
theorem run_plain (l : List Int) (h : ∀ x ∈ l, x ≠ 46) : run 0 st0 l = if digs (l.drop (start l)) then some ⟨val 0 (l.drop (start l)), l.length - start l, -1⟩ else none := by
  rw [run_sign, run_digs _ _ _ (.inr fun x hx => h x (List.mem_of_mem_drop hx)) (body_head l)]
  simp [st0]
/-- A point at place d of the body. -/
theorem run_point (l : List Int) (d : Nat) (a b : List Int) (hl : l.drop (start l) = a ++ 46 :: b) (hd : a.length = d) (ha : ∀ x ∈ a, x ≠ 46) :
    run 0 st0 l = if digs a && digs b && decide (0 < d) then some ⟨val (val 0 a) b, d + b.length, d⟩ else none := by
  have hh := body_head l
  rw [run_sign, hl, run_append, run_digs a _ _ (.inr ha) (by
    rcases hh with h | h
    · exact .inl h
    · rw [hl] at h
      cases a with
      | nil => exact .inr (by simp)
      | cons x a => exact .inr (by simpa using h))]
  cases hda : digs a with
  | false => simp
  | true =>
    simp only [if_true, run, st0]
    have h1 : isDig 46 = false := by decide
    by_cases h0 : 0 < d
    · have hs : step (start l + a.length) ⟨val 0 a, 0 + a.length, -1⟩ 46 = some ⟨val 0 a, 0 + a.length, ((0 + a.length : Nat) : Int)⟩ := by
        simp [step, h1]
        intro h; subst h; simp at hd; omega
      rw [hs]
      simp only
      rw [run_digs b _ _ (.inl (by simp)) (.inl (by omega))]
      simp [h0, hd]
    · have hs : step (start l + a.length) ⟨val 0 a, 0 + a.length, -1⟩ 46 = none := by
        have : a = [] := List.eq_nil_of_length_eq_zero (by omega)
        subst this
        simp [step, h1]
      rw [hs]
      simp [h0]

end Go.Proofs.Qxb6630151aFmt.Plain
