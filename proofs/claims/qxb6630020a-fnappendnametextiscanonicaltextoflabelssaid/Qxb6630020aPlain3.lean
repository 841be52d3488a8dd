/-
  Seat b6630020a: the plain law of the second statement: the text is the one canonical text of the labels. A label byte is a number from 0 to 255, the dot between two labels is -1.
-/
import Derived.Test.Qxb6630020aPlain2
namespace Go.Proofs.Qxb6630020a.Plain

/-- The text of one symbol. -/
def enc (s : Int) : List Int := if s = -1 then [46] else esc1 s
def encs (l : List Int) : List Int := l.flatMap enc
/-- What zzWireLabels' outer loop appends from here on. -/
def flat : Nat → Bool → List Int → List Int
  | 0, _, _ => []
  | _ + 1, _, [] => []
  | f + 1, b, n :: r => if n = 0 then [] else (if b then [] else [-1]) ++ (r.take n.toNat ++ flat f false (r.drop n.toNat))
def labels (l : List Int) : List Int := flat l.length true l

theorem encs_append (a b : List Int) : encs (a ++ b) = encs a ++ encs b := by simp [encs]
theorem encs_cons (c : Int) (l : List Int) : encs (c :: l) = enc c ++ encs l := rfl
theorem encs_nil : encs [] = [] := rfl
theorem encs_bytes (l : List Int) (h : ∀ x ∈ l, 0 ≤ x ∧ x ≤ 255) : encs l = esc l := by
  induction l with
  | nil => rfl
  | cons c l ih =>
    rw [encs_cons, esc_cons, ih fun x hx => h x (by simp [hx])]
    have := h c (by simp)
    rw [enc, if_neg (by omega)]

theorem txt_flat (f : Nat) : ∀ (b : Bool) (l : List Int), (∀ x ∈ l, 0 ≤ x ∧ x ≤ 255) → txt f b l = encs (flat f b l) := by
  induction f with
  | zero => intro b l _; rfl
  | succ f ih =>
    intro b l h
    match l with
    | [] => rfl
    | n :: r =>
      simp only [txt, flat]
      by_cases hn : n = 0
      · rw [if_pos hn, if_pos hn]; rfl
      · rw [if_neg hn, if_neg hn, encs_append, encs_append, ih false _ fun x hx => h x (by simp [List.mem_of_mem_drop hx]), encs_bytes (r.take n.toNat) fun x hx => h x (by simp [List.mem_of_mem_take hx])]
        cases b <;> rfl

theorem text_labels (l : List Int) (h : ∀ x ∈ l, 0 ≤ x ∧ x ≤ 255) (hpos : 0 < l.length) (h0 : l.getD 0 0 ≠ 0) : text l = encs (labels l) := by
  rw [← text_loop l hpos h0, List.drop_zero, labels, txt_flat _ _ _ h]

theorem flat_mem (f : Nat) : ∀ (b : Bool) (l : List Int), (∀ x ∈ l, 0 ≤ x ∧ x ≤ 255) → ∀ x ∈ flat f b l, x = -1 ∨ (0 ≤ x ∧ x ≤ 255) := by
  induction f with
  | zero => intro b l _ x hx; simp [flat] at hx
  | succ f ih =>
    intro b l h x hx
    match l with
    | [] => simp [flat] at hx
    | n :: r =>
      simp only [flat] at hx
      by_cases hn : n = 0
      · rw [if_pos hn] at hx; simp at hx
      · rw [if_neg hn] at hx
        rcases List.mem_append.1 hx with h1 | h1
        · cases b <;> simp at h1; exact .inl h1
        · rcases List.mem_append.1 h1 with h2 | h2
          · exact .inr (h x (by simp [List.mem_of_mem_take h2]))
          · exact ih false _ (fun y hy => h y (by simp [List.mem_of_mem_drop hy])) x h2
theorem labels_mem (l : List Int) (h : ∀ x ∈ l, 0 ≤ x ∧ x ≤ 255) : ∀ x ∈ labels l, x = -1 ∨ (0 ≤ x ∧ x ≤ 255) := flat_mem _ _ _ h

theorem flat_le (f : Nat) : ∀ (b : Bool) (l : List Int), (flat f b l).length ≤ l.length := by
  induction f with
  | zero => intro b l; simp [flat]
  | succ f ih =>
    intro b l
    match l with
    | [] => simp [flat]
    | n :: r =>
      simp only [flat]
      split
      · simp
      · have h2 := ih false (r.drop n.toNat)
        have h3 : (if b = true then ([] : List Int) else [-1]).length ≤ 1 := by split <;> simp
        simp only [List.length_append, List.length_cons, List.length_take, List.length_drop] at *
        omega
theorem labels_le (l : List Int) : (labels l).length ≤ l.length := flat_le _ _ _

/-- One round of zzWireLabels' outer loop. -/
theorem flat_round (zs : List Int) (k nn m g : Nat) (hk : k < zs.length) (hn : zs.getD k 0 = (nn : Int)) (hn1 : 1 ≤ nn) (hm : m ≤ nn) (hm2 : m = nn ∨ k + 1 + m = zs.length) (hg : zs.length - k ≤ g) (b : Bool) :
    flat g b (zs.drop k) = (if b then [] else [-1]) ++ ((zs.drop (k + 1)).take m ++ flat (g - 1) false (zs.drop (k + 1 + nn))) := by
  obtain ⟨f, rfl⟩ : ∃ f, g = f + 1 := ⟨g - 1, by omega⟩
  rw [drop_getD zs k hk, hn]
  have h0 : ¬ ((nn : Int) = 0) := by omega
  simp only [flat, if_neg h0, Int.toNat_natCast, Nat.add_sub_cancel, List.drop_drop]
  rw [take_congr zs (k + 1) m nn hm hm2]
theorem flat_stop (zs : List Int) (k g : Nat) (h : zs.length ≤ k ∨ zs.getD k 0 = 0) (b : Bool) : flat g b (zs.drop k) = [] := by
  match g with
  | 0 => rfl
  | f + 1 =>
    by_cases hk : k < zs.length
    · rw [drop_getD zs k hk]
      rcases h with h | h
      · omega
      · rw [h]; simp [flat]
    · rw [List.drop_of_length_le (by omega)]; rfl
theorem take_round (zs : List Int) (k j m : Nat) (hj : j < m) (hk : k + m ≤ zs.length) : (zs.drop (k + j)).take (m - j) = zs.getD (k + j) 0 :: (zs.drop (k + (j + 1))).take (m - (j + 1)) := by
  rw [drop_getD zs (k + j) (by omega), show m - j = (m - (j + 1)) + 1 by omega, List.take_succ_cons]
  rfl

/-! What zzParseText reads at a symbol's place. -/
theorem encs_at (a b : List Int) (i : Nat) : (encs (a ++ b)).getD ((encs a).length + i) 0 = (encs b).getD i 0 := by
  rw [encs_append, List.getD_eq_getElem?_getD, List.getElem?_append_right (by omega), Nat.add_sub_cancel_left, ← List.getD_eq_getElem?_getD]
theorem enc_at (s : Int) (l : List Int) (i : Nat) (h : i < (enc s).length) : (encs (s :: l)).getD i 0 = (enc s).getD i 0 := by
  rw [encs_cons, List.getD_eq_getElem?_getD, List.getElem?_append_left h, ← List.getD_eq_getElem?_getD]
/-- The symbol at place n of S, and its text at its place of the whole text. -/
theorem sym_at (S : List Int) (n : Nat) (h : n < S.length) (i : Nat) (hi : i < (enc (S.getD n 0)).length) :
    (encs S).getD ((encs (S.take n)).length + i) 0 = (enc (S.getD n 0)).getD i 0 := by
  have e : S = S.take n ++ S.getD n 0 :: S.drop (n + 1) := by rw [← drop_getD S n h, List.take_append_drop]
  have h1 := encs_at (S.take n) (S.getD n 0 :: S.drop (n + 1)) i
  rw [← e] at h1
  rw [h1, enc_at _ _ _ hi]
theorem sym_len (S : List Int) (n : Nat) (h : n < S.length) : (encs (S.take (n + 1))).length = (encs (S.take n)).length + (enc (S.getD n 0)).length := by
  have e : S.take (n + 1) = S.take n ++ [S.getD n 0] := by
    rw [List.take_add_one]; congr 1; simp [h]
  rw [e, encs_append, List.length_append]
  simp [encs]
theorem sym_le (S : List Int) (n : Nat) : (encs (S.take n)).length ≤ (encs S).length := by
  have e : S = S.take n ++ S.drop n := (List.take_append_drop n S).symm
  have := congrArg (fun l => (encs l).length) e
  simp only [encs_append, List.length_append] at this
  omega
theorem sym_end (S : List Int) (n : Nat) (h : n ≤ S.length) (he : (encs S).length ≤ (encs (S.take n)).length) : n = S.length := by
  rcases Nat.lt_or_ge n S.length with h1 | h1
  · have h2 := sym_len S n h1
    have h3 := sym_le S (n + 1)
    have h4 : 1 ≤ (enc (S.getD n 0)).length := by
      unfold enc
      split
      · simp
      · exact esc1_pos _
    omega
  · omega
theorem take_snoc (S : List Int) (n : Nat) (h : n < S.length) : S.take (n + 1) = S.take n ++ [S.getD n 0] := by
  rw [List.take_add_one]; congr 1; simp [h]

end Go.Proofs.Qxb6630020a.Plain
