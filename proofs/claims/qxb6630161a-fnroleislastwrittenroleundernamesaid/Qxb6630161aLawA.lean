/-
  Seat b6630161a: the walk of FnRoleIsLastWrittenRoleUnderName.
-/
import Derived.Test.Qxb6630161aRole
import Derived.Test.Qxb6630161aBytesA
namespace Go.Proofs.Qxb6630161a
open Go.RowKit Go.Maps

/-- A place at which the specs last bear a name is one. -/
theorem last_of_none {X : Sps} {q : ByteArray} {r : Int} (h : Last X q r) (hn : ∀ i, i < X.n → (X.p i).name ≠ q) : r = -1 := by
  rcases h with ⟨h, _⟩ | ⟨j, _, hj, h, _⟩
  · exact h
  · exact absurd h (hn j hj)
theorem last_of_some {X : Sps} {q : ByteArray} {r : Int} (h : Last X q r) {j : Nat} (hj : j < X.n) (h1 : (X.p j).name = q) (h2 : ∀ i, j < i → i < X.n → (X.p i).name ≠ q) : r = j := by
  rcases h with ⟨_, h⟩ | ⟨j', hr, hj', h3, h4⟩
  · exact absurd h1 (h j hj)
  · have : j = j' := by
      rcases Nat.lt_trichotomy j j' with hl | hl | hl
      · exact absurd h3 (h2 j' hl hj')
      · exact hl
      · exact absurd h1 (h4 j hl hj)
    rw [hr, this]

set_option maxHeartbeats 8000000 in
set_option maxRecDepth 100000 in
theorem law3 (w : World) (v : Value) (X : Sps) (q : ByteArray) (hx : Specs w 0 w.heap.size v X) (hnm : ∀ i, i < X.n → (X.p i).name.size ≤ maxLen) (hq : q.size ≤ maxLen) :
    Calls Try.prog 3 #[v, .string q] w (Yes w) := by
  go_enter Try.func3, Try.ntmps3
  go_wp2_with fail
  refine (bytes5 _ _ _ X q hx).mono ?_
  rintro e w0 ⟨r, rfl, hsmall, rfl⟩
  cases r with
  | false =>
    clear hsmall
    go_wp2
    go_ret
    exact ⟨rfl, Below.refl _ _⟩
  | true =>
  have hok : X.ok := hsmall rfl
  clear hsmall
  go_wp2_with fail
  refine (tooBig _ _ _ X q hx).mono ?_
  rintro e w0 ⟨r, rfl, rfl⟩
  cases r with
  | true =>
    go_wp2
    go_ret
    exact ⟨rfl, Below.refl _ _⟩
  | false =>
  go_wp2_with fail
  refine (wellFormed _ _ _ X hx hok).mono ?_
  rintro e w0 ⟨r, rfl, rfl⟩
  cases r with
  | false =>
    go_wp2
    go_ret
    exact ⟨rfl, Below.refl _ _⟩
  | true =>
  go_wp2_with fail
  refine (cloneSpecs _ _ _ X hx hok (Nat.le_refl _)).mono ?_
  rintro e w1 ⟨v1, rfl, hs1, hb1⟩
  have z1 := hb1.size
  go_wp2_with fail
  refine (cloneSpecs _ w1.heap.size _ X (hs1.mono (Nat.zero_le _) (Nat.le_refl _)) hok (Nat.le_refl _)).mono ?_
  rintro e w2 ⟨v2, rfl, hs2, hb2⟩
  have z2 := hb2.size
  go_wp2_with fail
  refine (buildPolicy _ w2.heap.size _ X (hs2.mono (Nat.zero_le _) (Nat.le_refl _)) hok hnm (Nat.le_refl _)).mono ?_
  rintro e w3 ⟨v3, rfl, hp3, hb3⟩
  have z3 := hb3.size
  go_wp2_with fail
  refine (zzRoleName _ _).mono ?_
  rintro e w4 ⟨rfl, hb4⟩
  have z4 := hb4.size
  go_wp2_with fail
  refine (role _ w3.heap.size _ X q (hp3.below hb4 (Nat.le_refl _)) hok hq z4).mono ?_
  rintro e w5 ⟨vi, va, vd, ok, rfl, hfound, hb5⟩
  have z5 := hb5.size
  have b15 : Below w1.heap.size w1 w5 := hb2.trans ((hb3.mono z2).trans ((hb4.mono (by omega)).trans (hb5.mono (by omega))))
  have b05 : Below w.heap.size w w5 := hb1.trans (b15.mono z1)
  have hs5 : Specs w5 0 w1.heap.size v1 X := (hs1.below b15 (Nat.le_refl _)).mono (Nat.zero_le _) (Nat.le_refl _)
  clear hs1 hs2 hp3 hx hb1 hb2 hb3 hb4 hb5
  rcases hfound with ⟨rfl, hno, rfl, rfl, rfl⟩ | ⟨j, hj, rfl, hj1, hj2, hf⟩
  · have hsA := hs5.below ((Below.refl w5.heap.size w5).alloc (Nat.le_refl _) (.cells #[.slice none 0 0, .slice none 0 0, .slice none 0 0] 33)) (by omega)
    go_wp2_with fail
    refine (lastIndex _ w1.heap.size _ X q hsA hok.1).mono ?_
    rintro e w6 ⟨r, rfl, hlast, rfl⟩
    obtain rfl := last_of_none hlast hno
    clear hlast hsA hs5
    go_wp2_with fail
    refine (roleIsEmpty _ _ _ _ _ _ _).mono ?_
    rintro e w6 ⟨rfl, hb6⟩
    go_wp2
    go_ret
    exact ⟨rfl, (b05.alloc (by omega) _).trans (hb6.mono (by simp; omega))⟩
  · obtain ⟨ao, kk, hv1, hc⟩ := id hs5
    obtain ⟨b, o, rfl, hb, hc⟩ := hc (by omega)
    obtain ⟨vi', va', vd', g0, g1, g2, g3, hf'⟩ := hc j hj
    subst hv1
    have hokj := hok.2 j hj
    obtain ⟨pj, hpj⟩ : ∃ pj, pj = X.p j := ⟨_, rfl⟩
    rw [← hpj] at hf hf' g0 hokj
    clear hpj hc
    obtain ⟨nm, XI, XA, XD⟩ := pj
    obtain ⟨ai, ji, rfl⟩ := hf.inh.form
    obtain ⟨aa, ja, rfl⟩ := hf.allow.form
    obtain ⟨ad, jd, rfl⟩ := hf.deny.form
    obtain ⟨bi, li, rfl⟩ := hf'.inh.form
    obtain ⟨ba, la, rfl⟩ := hf'.allow.form
    obtain ⟨bd, ld, rfl⟩ := hf'.deny.form
    simp only at g0 g1 g2 g3 hf hf'
    generalize XI.n = ni at hf hf' g1 ⊢
    generalize XA.n = na at hf hf' g2 ⊢
    generalize XD.n = nd at hf hf' g3 ⊢
    have hsA := hs5.below ((Below.refl w5.heap.size w5).alloc (Nat.le_refl _) (.cells #[.slice ai ni ji, .slice aa na ja, .slice ad nd jd] 33)) (by omega)
    go_wp2_with fail
    refine (lastIndex _ w1.heap.size _ X q hsA hok.1).mono ?_
    rintro e w6 ⟨r, rfl, hlast, rfl⟩
    obtain rfl := last_of_some hlast hj hj1 hj2
    clear hlast hsA hs5
    have hbw6 : Below w5.heap.size w5 (w5.alloc (.cells #[.slice ai ni ji, .slice aa na ja, .slice ad nd jd] 33)) := (Below.refl _ _).alloc (Nat.le_refl _) _
    go_upto_region 14 with fail
    obtain ⟨W6, hW6⟩ : ∃ W6, W6 = w5.alloc (.cells #[.slice ai ni ji, .slice aa na ja, .slice ad nd jd] 33) := ⟨_, rfl⟩
    rw [← hW6]
    rw [← hW6] at hbw6
    have d0 : W6.cell? ⟨w5.heap.size, 0, none⟩ = some (.slice ai ni ji) := by rw [hW6]; simp
    have d1 : W6.cell? ⟨w5.heap.size, 1, none⟩ = some (.slice aa na ja) := by rw [hW6]; simp
    have d2 : W6.cell? ⟨w5.heap.size, 2, none⟩ = some (.slice ad nd jd) := by rw [hW6]; simp
    have z6 : w5.heap.size < W6.heap.size := by rw [hW6]; simp
    clear hW6
    have hbb : b < w5.heap.size := by omega
    have mk : ∀ W, Below W6.heap.size W6 W → (W.cell? ⟨w5.heap.size, 0, none⟩ = some (.slice ai ni ji) ∧ W.cell? ⟨w5.heap.size, 1, none⟩ = some (.slice aa na ja) ∧ W.cell? ⟨w5.heap.size, 2, none⟩ = some (.slice ad nd jd) ∧ W.cell? ⟨b, o + j * 4, none⟩ = some (.string nm) ∧ W.cell? ⟨b, o + j * 4 + 1, none⟩ = some (.slice bi ni li) ∧ W.cell? ⟨b, o + j * 4 + 2, none⟩ = some (.slice ba na la) ∧ W.cell? ⟨b, o + j * 4 + 3, none⟩ = some (.slice bd nd ld) ∧ Below W6.heap.size W6 W) := fun W h =>
      have hbl : b < W6.heap.size := by omega
      ⟨(h.cell z6).trans d0, (h.cell z6).trans d1, (h.cell z6).trans d2, (h.cell hbl).trans ((hbw6.cell hbb).trans g0), (h.cell hbl).trans ((hbw6.cell hbb).trans g1), (h.cell hbl).trans ((hbw6.cell hbb).trans g2), (h.cell hbl).trans ((hbw6.cell hbb).trans g3), h⟩
    have hd6 : Below W6.heap.size W6 W6.drew := (Below.refl _ _).drew
    have s0 := mk _ hd6
    have MK : Hid (∀ W, Below W6.heap.size W6 W → (W.cell? ⟨w5.heap.size, 0, none⟩ = some (.slice ai ni ji) ∧ W.cell? ⟨w5.heap.size, 1, none⟩ = some (.slice aa na ja) ∧ W.cell? ⟨w5.heap.size, 2, none⟩ = some (.slice ad nd jd) ∧ W.cell? ⟨b, o + j * 4, none⟩ = some (.string nm) ∧ W.cell? ⟨b, o + j * 4 + 1, none⟩ = some (.slice bi ni li) ∧ W.cell? ⟨b, o + j * 4 + 2, none⟩ = some (.slice ba na la) ∧ W.cell? ⟨b, o + j * 4 + 3, none⟩ = some (.slice bd nd ld) ∧ Below W6.heap.size W6 W)) := mk
    have pf := (hf.below hbw6 (Nat.le_refl _) (by omega)).below hd6 (by omega) (by omega)
    have pf' := (hf'.below hbw6 (by omega) (by omega)).below hd6 (by omega) (by omega)
    have pf := pf.mono (A' := 0) (I' := 0) (J' := W6.drew.heap.size) (B' := W6.drew.heap.size) (Nat.zero_le _) (Nat.le_refl _) (by show _ ≤ W6.heap.size; omega) (by show _ ≤ W6.heap.size; omega)
    have pf' := pf'.mono (A' := 0) (I' := 0) (J' := W6.drew.heap.size) (B' := W6.drew.heap.size) (Nat.zero_le _) (Nat.le_refl _) (by show _ ≤ W6.heap.size; omega) (by show _ ≤ W6.heap.size; omega)
    have i1 : (0 : Int) ≤ j := by omega
    have i2 : (j : Int) < X.n := by omega
    clear mk g0 g1 g2 g3 d0 d1 d2 hf hf'
    go_region_held3 (fun W => (W.cell? ⟨w5.heap.size, 0, none⟩ = some (.slice ai ni ji) ∧ W.cell? ⟨w5.heap.size, 1, none⟩ = some (.slice aa na ja) ∧ W.cell? ⟨w5.heap.size, 2, none⟩ = some (.slice ad nd jd) ∧ W.cell? ⟨b, o + j * 4, none⟩ = some (.string nm) ∧ W.cell? ⟨b, o + j * 4 + 1, none⟩ = some (.slice bi ni li) ∧ W.cell? ⟨b, o + j * 4 + 2, none⟩ = some (.slice ba na la) ∧ W.cell? ⟨b, o + j * 4 + 3, none⟩ = some (.slice bd nd ld) ∧ Below W6.heap.size W6 W))
      (first
        | exact s0
        | exact MK.out _ (hd6.trans (by assumption)))
      (first
        | (go_at_call 14; refine (roleIs _ _ _ _ _ _ _ ⟨nm, XI, XA, XD⟩ pf pf' hokj).mono ?_; rintro e w7 ⟨rfl, hb7⟩))
    have hb9 : Below W6.heap.size W6 w7 := hd6.trans hb7
    clear s0 pf pf'
    go_wp2
    go_ret
    exact ⟨rfl, b05.trans ((hbw6.mono (by omega)).trans (hb9.mono (by omega)))⟩
end Go.Proofs.Qxb6630161a
