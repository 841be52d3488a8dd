/-
  Plain mathematics for seat b6630020a: no Go in sight. Bytes are Ints.
-/
namespace Go.Proofs.Qxb6630020a.Plain

/-- The text of one label byte. -/
def esc1 (c : Int) : List Int :=
  if c = 46 ∨ c = 92 then [92, c] else if c ≤ 32 ∨ 126 < c then [92, 48 + c / 100, 48 + c / 10 % 10, 48 + c % 10] else [c]
def esc (l : List Int) : List Int := l.flatMap esc1

/-- What AppendNameText's outer loop appends from here on ('b': nothing has been written yet). -/
def txt : Nat → Bool → List Int → List Int
  | 0, _, _ => []
  | _ + 1, _, [] => []
  | f + 1, b, n :: r => if n = 0 then [] else (if b then [] else [46]) ++ (esc (r.take n.toNat) ++ txt f false (r.drop n.toNat))

/-- What AppendNameText appends. -/
def text : List Int → List Int
  | [] => [46]
  | n :: r => if n = 0 then [46] else txt (r.length + 1) true (n :: r)

theorem esc1_le (c : Int) : (esc1 c).length ≤ 4 := by unfold esc1; split <;> (try split) <;> simp
theorem esc1_pos (c : Int) : 1 ≤ (esc1 c).length := by unfold esc1; split <;> (try split) <;> simp
theorem esc1_two (c : Int) (h : c = 46 ∨ c = 92) : esc1 c = [92, c] := by simp [esc1, h]
theorem esc1_four (c : Int) (h : ¬ (c = 46 ∨ c = 92)) (h' : c ≤ 32 ∨ 126 < c) : esc1 c = [92, 48 + c / 100, 48 + c / 10 % 10, 48 + c % 10] := by simp [esc1, h, h']
theorem esc1_one (c : Int) (h : ¬ (c = 46 ∨ c = 92)) (h' : ¬ (c ≤ 32 ∨ 126 < c)) : esc1 c = [c] := by simp [esc1, h, h']
theorem esc_nil : esc [] = [] := rfl
theorem esc_cons (c : Int) (l : List Int) : esc (c :: l) = esc1 c ++ esc l := rfl
theorem esc_append (a b : List Int) : esc (a ++ b) = esc a ++ esc b := by simp [esc]
theorem esc_le (l : List Int) : (esc l).length ≤ 4 * l.length := by
  induction l with
  | nil => simp [esc]
  | cons c l ih => rw [esc_cons, List.length_append, List.length_cons]; have := esc1_le c; omega

theorem txt_le (f : Nat) : ∀ (b : Bool) (l : List Int), (txt f b l).length ≤ 4 * l.length := by
  induction f with
  | zero => intro b l; simp [txt]
  | succ f ih =>
    intro b l
    match l with
    | [] => simp [txt]
    | n :: r =>
      simp only [txt]
      split
      · simp
      · have h1 := esc_le (r.take n.toNat)
        have h2 := ih false (r.drop n.toNat)
        have h3 : (if b = true then ([] : List Int) else [46]).length ≤ 1 := by split <;> simp
        simp only [List.length_append, List.length_cons, List.length_take, List.length_drop] at *
        omega

theorem text_le (l : List Int) : (text l).length ≤ 4 * l.length + 1 := by
  match l with
  | [] => simp [text]
  | n :: r =>
    simp only [text]
    split
    · simp
    · have := txt_le (r.length + 1) true (n :: r); omega

/-- The fuel does not matter once it reaches the length. -/
theorem txt_fuel (f : Nat) : ∀ (g : Nat) (b : Bool) (l : List Int), l.length ≤ f → l.length ≤ g → txt f b l = txt g b l := by
  induction f with
  | zero =>
    intro g b l hf hg
    have : l = [] := List.eq_nil_of_length_eq_zero (by omega)
    subst this
    cases g <;> rfl
  | succ f ih =>
    intro g b l hf hg
    match l, g with
    | [], 0 => rfl
    | [], _ + 1 => rfl
    | n :: r, 0 => simp at hg
    | n :: r, g + 1 =>
      simp only [txt]
      rw [ih g false (r.drop n.toNat) (by simp at *; omega) (by simp at *; omega)]

theorem txt_false (f : Nat) (m : Int) (r : List Int) (hm : m ≠ 0) : txt (f + 1) false (m :: r) = 46 :: txt (f + 1) true (m :: r) := by
  simp [txt, hm]

theorem text_cons (n : Int) (r : List Int) (h : n ≠ 0) : text (n :: r) = txt (r.length + 1) true (n :: r) := by simp [text, h]
theorem text_zero (r : List Int) : text (0 :: r) = [46] := by simp [text]

/-- The first label's text alone. -/
theorem text_first (n : Int) (r : List Int) (h : n ≠ 0) : text (n :: r.take n.toNat) = esc (r.take n.toNat) := by
  rw [text_cons _ _ h]
  simp only [txt, if_neg h, if_true, List.nil_append, List.take_take, Nat.min_self]
  have : (r.take n.toNat).drop n.toNat = [] := by simp
  rw [this]
  cases (r.take n.toNat).length <;> simp [txt]

/-- The text splits behind the first label. -/
theorem text_split (n : Int) (r : List Int) (h : n ≠ 0) (m : Int) (r' : List Int) (hd : r.drop n.toNat = m :: r') (hm : m ≠ 0) :
    text (n :: r) = esc (r.take n.toNat) ++ (46 :: text (m :: r')) := by
  rw [text_cons _ _ h]
  simp only [txt, if_neg h, if_true, List.nil_append, hd]
  have hl : r'.length + 1 ≤ r.length := by have := congrArg List.length hd; simp at this; omega
  obtain ⟨q, hq⟩ : ∃ q, r.length = q + 1 := ⟨r.length - 1, by omega⟩
  rw [hq, txt_false q m r' hm, text_cons m r' hm, txt_fuel (q + 1) (r'.length + 1) true (m :: r') (by simp; omega) (by simp)]

/-- How many text bytes a label byte takes. -/
def width (c : Int) : Int := if c = 46 ∨ c = 92 then 2 else if c < 33 ∨ 126 < c then 4 else 1
theorem width_len (c : Int) : width c = (esc1 c).length := by
  unfold width esc1
  by_cases h : c = 46 ∨ c = 92
  · simp [h]
  · rw [if_neg h, if_neg h]
    by_cases h2 : c ≤ 32 ∨ 126 < c
    · rw [if_pos h2, if_pos (by omega)]; simp
    · rw [if_neg h2, if_neg (by omega)]; simp
theorem width_bd (c : Int) : 1 ≤ width c ∧ width c ≤ 4 := by unfold width; split <;> (try split) <;> omega
theorem esc_snoc (l : List Int) (c : Int) : ((esc (l ++ [c])).length : Int) = (esc l).length + width c := by
  rw [esc_append, List.length_append, width_len]; simp [esc]

theorem drop_getD (zs : List Int) (k : Nat) (h : k < zs.length) : zs.drop k = zs.getD k 0 :: zs.drop (k + 1) := by
  rw [List.drop_eq_getElem_cons h]; simp [h]
theorem take_congr (zs : List Int) (a m n : Nat) (h : m ≤ n) (hm : m = n ∨ a + m = zs.length) : (zs.drop a).take n = (zs.drop a).take m := by
  rcases hm with rfl | hm
  · rfl
  · rw [List.take_of_length_le (by simp; omega), List.take_of_length_le (by simp; omega)]

/-- One round of the outer loop. -/
theorem txt_round (zs : List Int) (k nn m g : Nat) (hk : k < zs.length) (hn : zs.getD k 0 = (nn : Int)) (hn1 : 1 ≤ nn) (hm : m ≤ nn) (hm2 : m = nn ∨ k + 1 + m = zs.length) (hg : zs.length - k ≤ g) (b : Bool) :
    txt g b (zs.drop k) = (if b then [] else [46]) ++ (esc ((zs.drop (k + 1)).take m) ++ txt (g - 1) false (zs.drop (k + 1 + nn))) := by
  obtain ⟨f, rfl⟩ : ∃ f, g = f + 1 := ⟨g - 1, by omega⟩
  rw [drop_getD zs k hk, hn]
  have h0 : ¬ ((nn : Int) = 0) := by omega
  simp only [txt, if_neg h0, Int.toNat_natCast, Nat.add_sub_cancel, List.drop_drop]
  rw [take_congr zs (k + 1) m nn hm hm2]

theorem txt_stop (zs : List Int) (k g : Nat) (h : zs.length ≤ k ∨ zs.getD k 0 = 0) (b : Bool) : txt g b (zs.drop k) = [] := by
  match g with
  | 0 => rfl
  | f + 1 =>
    by_cases hk : k < zs.length
    · rw [drop_getD zs k hk]
      rcases h with h | h
      · omega
      · rw [h]; simp [txt]
    · rw [List.drop_of_length_le (by omega)]; rfl

/-- One round of the inner loop. -/
theorem esc_round (zs : List Int) (k j m : Nat) (hj : j < m) (hk : k + m ≤ zs.length) : esc ((zs.drop (k + j)).take (m - j)) = esc1 (zs.getD (k + j) 0) ++ esc ((zs.drop (k + (j + 1))).take (m - (j + 1))) := by
  rw [drop_getD zs (k + j) (by omega), show m - j = (m - (j + 1)) + 1 by omega, List.take_succ_cons, esc_cons]
  rfl

theorem text_loop (zs : List Int) (hpos : 0 < zs.length) (h0 : zs.getD 0 0 ≠ 0) : txt zs.length true (zs.drop 0) = text zs := by
  match zs with
  | [] => simp at hpos
  | n :: r => simp at h0; simp [text, h0]

end Go.Proofs.Qxb6630020a.Plain
