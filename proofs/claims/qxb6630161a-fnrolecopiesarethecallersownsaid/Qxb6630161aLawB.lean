/-
  Seat b6630161a: the walk of FnRoleCopiesAreTheCallersOwn.
-/
import Derived.Test.Qxb6630161aRoleS
import Derived.Test.Qxb6630161aBytesB
namespace Go.Proofs.Qxb6630161a
open Go.RowKit Go.Maps

/-- A place at which the specs last bear a name is one. -/
theorem last_of_none {X : Sps} {q : ByteArray} {r : Int} (h : Last X q r) (hn : ∀ i, i < X.n → (X.p i).name ≠ q) : r = -1 := by
  rcases h with ⟨h, _⟩ | ⟨j, _, hj, h, _⟩
  · exact h
  · exact absurd h (hn j hj)
theorem last_of_some {X : Sps} {q : ByteArray} {r : Int} (h : Last X q r) {j : Nat} (hj : j < X.n) (h1 : (X.p j).name = q) (h2 : ∀ i, j < i → i < X.n → (X.p i).name ≠ q) : r = j := by
  rcases h with ⟨_, h⟩ | ⟨j', hr, hj', h3, h4⟩
  · exact absurd h1 (h j hj)
  · have : j = j' := by
      rcases Nat.lt_trichotomy j j' with hl | hl | hl
      · exact absurd h3 (h2 j' hl hj')
      · exact hl
      · exact absurd h1 (h4 j hl hj)
    rw [hr, this]

set_option maxHeartbeats 8000000 in
set_option maxRecDepth 100000 in
theorem law4 (w : World) (v : Value) (X : Sps) (q : ByteArray) (hx : Specs w 0 w.heap.size v X) (hnm : ∀ i, i < X.n → (X.p i).name.size ≤ maxLen) (hq : q.size ≤ maxLen) :
    Calls Try.prog 4 #[v, .string q] w (Yes w) := by
  go_enter Try.func4, Try.ntmps4
  go_wp2_with fail
  refine (bytes15 _ _ _ X q hx).mono ?_
  rintro e w0 ⟨r, rfl, hsmall, rfl⟩
  cases r with
  | false =>
    clear hsmall
    go_wp2
    go_ret
    exact ⟨rfl, Below.refl _ _⟩
  | true =>
  have hok : X.ok := hsmall rfl
  clear hsmall
  go_wp2_with fail
  refine (tooBig _ _ _ X q hx).mono ?_
  rintro e w0 ⟨r, rfl, rfl⟩
  cases r with
  | true =>
    go_wp2
    go_ret
    exact ⟨rfl, Below.refl _ _⟩
  | false =>
  go_wp2_with fail
  refine (wellFormed _ _ _ X hx hok).mono ?_
  rintro e w0 ⟨r, rfl, rfl⟩
  cases r with
  | false =>
    go_wp2
    go_ret
    exact ⟨rfl, Below.refl _ _⟩
  | true =>
  go_wp2_with fail
  refine (cloneSpecs _ _ _ X hx hok (Nat.le_refl _)).mono ?_
  rintro e w1 ⟨v1, rfl, hs1, hb1⟩
  have z1 := hb1.size
  go_wp2_with fail
  refine (cloneSpecs _ w1.heap.size _ X (hs1.mono (Nat.zero_le _) (Nat.le_refl _)) hok (Nat.le_refl _)).mono ?_
  rintro e w2 ⟨v2, rfl, hs2, hb2⟩
  have z2 := hb2.size
  go_wp2_with fail
  refine (buildPolicy _ w2.heap.size _ X (hs2.mono (Nat.zero_le _) (Nat.le_refl _)) hok hnm (Nat.le_refl _)).mono ?_
  rintro e w3 ⟨v3, rfl, hp3, hb3⟩
  have z3 := hb3.size
  go_wp2_with fail
  refine (zzRoleName _ _).mono ?_
  rintro e w4 ⟨rfl, hb4⟩
  have z4 := hb4.size
  obtain ⟨Wa, hWa⟩ : ∃ Wa, Wa = w4.alloc (.cells #[.string q] 37) := ⟨_, rfl⟩
  have ca : Wa.cell? ⟨w4.heap.size, 0, none⟩ = some (.string q) := by rw [hWa]; simp
  have za : Wa.heap.size = w4.heap.size + 1 := by rw [hWa]; simp
  have hba : Below w4.heap.size w4 Wa := by rw [hWa]; exact (Below.refl _ _).alloc (Nat.le_refl _) _
  have HZA : Hid (Wa.heap.size = w4.heap.size + 1) := za
  go_upto_region 11 with fail
  rw [← hWa]
  clear hWa za
  have hp4 := (hp3.below hb4 (Nat.le_refl _)).below hba z4
  go_wp2_with fail
  refine (roleS _ w3.heap.size _ X q hp4 hok hq (by have := HZA.out; omega)).mono ?_
  rintro e w5 ⟨vi, va, vd, ok, rfl, hfound, ⟨hSI, hSA, hSD⟩, hb5⟩
  have z5 := hb5.size
  have b15 : Below w1.heap.size w1 w5 := hb2.trans ((hb3.mono z2).trans ((hb4.mono (by omega)).trans ((hba.mono (by omega)).trans (hb5.mono (by have := HZA.out; omega)))))
  have b05 : Below w.heap.size w w5 := hb1.trans (b15.mono z1)
  have hs5 : Specs w5 0 w1.heap.size v1 X := (hs1.below b15 (Nat.le_refl _)).mono (Nat.zero_le _) (Nat.le_refl _)
  have hp5 := hp4.below hb5 (by have := HZA.out; omega)
  have c5 := (hb5.cell (p := ⟨w4.heap.size, 0, none⟩) (by show w4.heap.size < _; have := HZA.out; omega)).trans ca
  have z45 : w4.heap.size < w5.heap.size := by have := HZA.out; omega
  clear hs1 hs2 hp3 hp4 hx hb1 hb2 hb3 hb4 hba ca
  rcases hfound with ⟨rfl, hno, rfl, rfl, rfl⟩ | ⟨j, hj, rfl, hj1, hj2, hf⟩
  · obtain ⟨W6, hW6⟩ : ∃ W6, W6 = w5.alloc (.cells #[.slice none 0 0, .slice none 0 0, .slice none 0 0] 33) := ⟨_, rfl⟩
    have hb6 : Below w5.heap.size w5 W6 := by rw [hW6]; exact (Below.refl _ _).alloc (Nat.le_refl _) _
    have z6 : W6.heap.size = w5.heap.size + 1 := by rw [hW6]; simp
    have HZ6 : Hid (W6.heap.size = w5.heap.size + 1) := z6
    have d0 : W6.cell? ⟨w5.heap.size, 0, none⟩ = some (.slice none 0 0) := by rw [hW6]; simp
    have d1 : W6.cell? ⟨w5.heap.size, 1, none⟩ = some (.slice none 0 0) := by rw [hW6]; simp
    have d2 : W6.cell? ⟨w5.heap.size, 2, none⟩ = some (.slice none 0 0) := by rw [hW6]; simp
    have hsA := hs5.below hb6 (by omega)
    have hp6 := hp5.below hb6 (by omega)
    have c6 := (hb6.cell (p := ⟨w4.heap.size, 0, none⟩) (by show w4.heap.size < _; have := HZA.out; omega)).trans c5
    go_upto_region 12 with fail
    rw [← hW6]
    clear hW6 z6 hs5 hp5 c5 hSI hSA hSD
    go_wp2_with fail
    refine (lastIndex _ w1.heap.size _ X q hsA hok.1).mono ?_
    rintro e w6 ⟨r, rfl, hlast, rfl⟩
    obtain rfl := last_of_none hlast hno
    clear hlast hsA
    go_wp2_with fail
    refine (scribble _ W6.heap.size _ _ _ 0 0 0 (fun _ => undef) (fun _ => undef) (fun _ => undef) (row_empty _ _ _ _ _ _) (row_empty _ _ _ _ _ _) (row_empty _ _ _ _ _ _) (soft_nil _ _) (soft_nil _ _) (soft_nil _ _) (by omega) (by omega) (by omega) (Nat.le_refl _)).mono ?_
    rintro e w7 ⟨vu, rfl, hb7⟩
    have z7 := hb7.size
    have hp7 := hp6.below hb7 (by have := HZ6.out; omega)
    have c7 := (hb7.cell (p := ⟨w4.heap.size, 0, none⟩) (by show w4.heap.size < _; have := HZA.out; have := HZ6.out; omega)).trans c6
    clear d0 d1 d2 hp6 c6
    go_wp2_with fail
    refine (roleS _ w3.heap.size _ X q hp7 hok hq (by have := HZA.out; have := HZ6.out; omega)).mono ?_
    rintro e w8 ⟨vi2, va2, vd2, ok2, rfl, hfound2, -, hb8⟩
    have z8 := hb8.size
    have b08 : Below w.heap.size w w8 := b05.trans ((hb6.mono (by have := HZA.out; omega)).trans ((hb7.mono (by have := HZA.out; have := HZ6.out; omega)).trans (hb8.mono (by have := HZA.out; have := HZ6.out; omega))))
    have zz8 : w.heap.size ≤ w8.heap.size := b08.size
    rcases hfound2 with ⟨rfl, -, rfl, rfl, rfl⟩ | ⟨j, hj, -, hj1, -, -⟩
    · clear hp7 c7
      go_wp2_with fail
      refine (roleIsEmpty _ _ _ _ _ _ _).mono ?_
      rintro e w9 ⟨rfl, hb9⟩
      go_wp2
      go_ret
      exact ⟨rfl, (b08.alloc (by omega) _).trans (hb9.mono (by simp; omega))⟩
    · exact absurd hj1 (hno j hj)
  · obtain ⟨ao, kk, hv1, hc⟩ := id hs5
    obtain ⟨b, o, rfl, hb, hc'⟩ := hc (by omega)
    obtain ⟨vi', va', vd', g0, g1, g2, g3, hf'⟩ := hc' j hj
    subst hv1
    have hokj := hok.2 j hj
    obtain ⟨pj, hpj⟩ : ∃ pj, pj = X.p j := ⟨_, rfl⟩
    rw [← hpj] at hf hf' g0 hokj
    have HPJ : Hid (pj = X.p j) := hpj
    clear hpj hc hc'
    obtain ⟨nm, XI, XA, XD⟩ := pj
    obtain ⟨ai, jai, rfl⟩ := hf.inh.form
    obtain ⟨aa, jaa, rfl⟩ := hf.allow.form
    obtain ⟨ad, jad, rfl⟩ := hf.deny.form
    obtain ⟨bi, li, rfl⟩ := hf'.inh.form
    obtain ⟨ba, la, rfl⟩ := hf'.allow.form
    obtain ⟨bd, ld, rfl⟩ := hf'.deny.form
    simp only at g0 g1 g2 g3 hf hf'
    have mI : XI.n ≤ 1048576 := hokj.1
    have mA : XA.n ≤ 1048576 := hokj.2.1.1
    have mD : XD.n ≤ 1048576 := hokj.2.2.1
    obtain ⟨ni, hni⟩ : ∃ ni, ni = XI.n := ⟨_, rfl⟩
    obtain ⟨na, hna⟩ : ∃ na, na = XA.n := ⟨_, rfl⟩
    obtain ⟨nd, hnd⟩ : ∃ nd, nd = XD.n := ⟨_, rfl⟩
    have HN : Hid (ni = XI.n ∧ na = XA.n ∧ nd = XD.n) := ⟨hni, hna, hnd⟩
    simp only [← hni, ← hna, ← hnd] at g1 g2 g3 hf hf' hSI hSA hSD ⊢
    clear hni hna hnd
    obtain ⟨W6, hW6⟩ : ∃ W6, W6 = w5.alloc (.cells #[.slice ai ni jai, .slice aa na jaa, .slice ad nd jad] 33) := ⟨_, rfl⟩
    have hb6 : Below w5.heap.size w5 W6 := by rw [hW6]; exact (Below.refl _ _).alloc (Nat.le_refl _) _
    have z6 : W6.heap.size = w5.heap.size + 1 := by rw [hW6]; simp
    have HZ6 : Hid (W6.heap.size = w5.heap.size + 1) := z6
    have d0 : W6.cell? ⟨w5.heap.size, 0, none⟩ = some (.slice ai ni jai) := by rw [hW6]; simp
    have d1 : W6.cell? ⟨w5.heap.size, 1, none⟩ = some (.slice aa na jaa) := by rw [hW6]; simp
    have d2 : W6.cell? ⟨w5.heap.size, 2, none⟩ = some (.slice ad nd jad) := by rw [hW6]; simp
    have hsA := hs5.below hb6 (by omega)
    have hp6 := hp5.below hb6 (by omega)
    have c6 := (hb6.cell (p := ⟨w4.heap.size, 0, none⟩) (by show w4.heap.size < _; omega)).trans c5
    have hbb : b < w5.heap.size := by omega
    have hbl : b < w1.heap.size := hb.2
    have g0 := (hb6.cell (p := ⟨b, o + j * 4, none⟩) hbb).trans g0
    have g1 := (hb6.cell (p := ⟨b, o + j * 4 + 1, none⟩) hbb).trans g1
    have g2 := (hb6.cell (p := ⟨b, o + j * 4 + 2, none⟩) hbb).trans g2
    have g3 := (hb6.cell (p := ⟨b, o + j * 4 + 3, none⟩) hbb).trans g3
    go_upto_region 12 with fail
    rw [← hW6]
    clear hW6 z6 hs5 hp5 c5
    go_wp2_with fail
    refine (lastIndex _ w1.heap.size _ X q hsA hok.1).mono ?_
    rintro e w6 ⟨r, rfl, hlast, rfl⟩
    obtain rfl := last_of_some hlast hj hj1 hj2
    clear hlast hsA
    have yW6 : w5.heap.size < W6.heap.size := (by have := HZA.out; have := HZ6.out; omega)
    have hblW6 : b < W6.heap.size := by omega
    have hf6 := hf.below hb6 (Nat.le_refl _) (by omega)
    have hf6' := hf'.below hb6 (by omega) (by omega)
    have pf := (hf6.below (Below.refl W6.heap.size W6).drew (by omega) (by omega)).mono (A' := 0) (I' := 0) (J' := W6.drew.heap.size) (B' := W6.drew.heap.size) (Nat.zero_le _) (Nat.le_refl _) (by show _ ≤ W6.heap.size; omega) (by show _ ≤ W6.heap.size; omega)
    have pf' := (hf6'.below (Below.refl W6.heap.size W6).drew (by omega) (by omega)).mono (A' := 0) (I' := 0) (J' := W6.drew.heap.size) (B' := W6.drew.heap.size) (Nat.zero_le _) (Nat.le_refl _) (by show _ ≤ W6.heap.size; omega) (by show _ ≤ W6.heap.size; omega)
    have i1 : (0 : Int) ≤ j := by omega
    have i2 : (j : Int) < X.n := by omega
    go_upto_region 15 with fail
    have mkW6 : ∀ W, Below W6.heap.size W6 W → (W.cell? ⟨w5.heap.size, 0, none⟩ = some (.slice ai ni jai) ∧ W.cell? ⟨w5.heap.size, 1, none⟩ = some (.slice aa na jaa) ∧ W.cell? ⟨w5.heap.size, 2, none⟩ = some (.slice ad nd jad) ∧ W.cell? ⟨b, o + j * 4, none⟩ = some (.string nm) ∧ W.cell? ⟨b, o + j * 4 + 1, none⟩ = some (.slice bi ni li) ∧ W.cell? ⟨b, o + j * 4 + 2, none⟩ = some (.slice ba na la) ∧ W.cell? ⟨b, o + j * 4 + 3, none⟩ = some (.slice bd nd ld) ∧ Below W6.heap.size W6 W) := fun W h =>
      ⟨(h.cell yW6).trans d0, (h.cell yW6).trans d1, (h.cell yW6).trans d2, (h.cell hblW6).trans g0, (h.cell hblW6).trans g1, (h.cell hblW6).trans g2, (h.cell hblW6).trans g3, h⟩
    have hdW6 : Below W6.heap.size W6 W6.drew := (Below.refl _ _).drew
    have s0 := mkW6 _ hdW6
    have MKW6 : Hid (∀ W, Below W6.heap.size W6 W → (W.cell? ⟨w5.heap.size, 0, none⟩ = some (.slice ai ni jai) ∧ W.cell? ⟨w5.heap.size, 1, none⟩ = some (.slice aa na jaa) ∧ W.cell? ⟨w5.heap.size, 2, none⟩ = some (.slice ad nd jad) ∧ W.cell? ⟨b, o + j * 4, none⟩ = some (.string nm) ∧ W.cell? ⟨b, o + j * 4 + 1, none⟩ = some (.slice bi ni li) ∧ W.cell? ⟨b, o + j * 4 + 2, none⟩ = some (.slice ba na la) ∧ W.cell? ⟨b, o + j * 4 + 3, none⟩ = some (.slice bd nd ld) ∧ Below W6.heap.size W6 W)) := mkW6
    clear mkW6
    go_region_held3 (fun W => (W.cell? ⟨w5.heap.size, 0, none⟩ = some (.slice ai ni jai) ∧ W.cell? ⟨w5.heap.size, 1, none⟩ = some (.slice aa na jaa) ∧ W.cell? ⟨w5.heap.size, 2, none⟩ = some (.slice ad nd jad) ∧ W.cell? ⟨b, o + j * 4, none⟩ = some (.string nm) ∧ W.cell? ⟨b, o + j * 4 + 1, none⟩ = some (.slice bi ni li) ∧ W.cell? ⟨b, o + j * 4 + 2, none⟩ = some (.slice ba na la) ∧ W.cell? ⟨b, o + j * 4 + 3, none⟩ = some (.slice bd nd ld) ∧ Below W6.heap.size W6 W))
      (first
        | exact s0
        | exact MKW6.out _ (hdW6.trans (by assumption)))
      (first
        | (go_at_call 14; refine (roleIs _ _ _ _ _ _ _ ⟨nm, XI, XA, XD⟩ pf pf' hokj).mono ?_; rintro e w7 ⟨rfl, hbw7⟩))
    have hb67 : Below W6.heap.size W6 w7 := hdW6.trans hbw7
    have z7 := hb67.size
    have e0 := (hb67.cell (p := ⟨w5.heap.size, 0, none⟩) yW6).trans d0
    have e1 := (hb67.cell (p := ⟨w5.heap.size, 1, none⟩) yW6).trans d1
    have e2 := (hb67.cell (p := ⟨w5.heap.size, 2, none⟩) yW6).trans d2
    have hf7 := (hf6.below hb67 (by omega) (by omega)).mono (Nat.le_refl _) (Nat.le_refl _) (Nat.le_refl _) (show w5.heap.size ≤ w7.heap.size by omega)
    have hf7' := hf6'.below hb67 (by omega) (by omega)
    have tI := ((hSI.below hb6 (Nat.le_refl _)).below hb67 (by omega)).mono (show w5.heap.size ≤ w7.heap.size by omega)
    have tA := ((hSA.below hb6 (Nat.le_refl _)).below hb67 (by omega)).mono (show w5.heap.size ≤ w7.heap.size by omega)
    have tD := ((hSD.below hb6 (Nat.le_refl _)).below hb67 (by omega)).mono (show w5.heap.size ≤ w7.heap.size by omega)
    have hp7 := hp6.below hb67 (by omega)
    have c7 := (hb67.cell (p := ⟨w4.heap.size, 0, none⟩) (by show w4.heap.size < _; omega)).trans c6
    have G0 := (hb67.cell (p := ⟨b, o + j * 4, none⟩) hblW6).trans g0
    have G1 := (hb67.cell (p := ⟨b, o + j * 4 + 1, none⟩) hblW6).trans g1
    have G2 := (hb67.cell (p := ⟨b, o + j * 4 + 2, none⟩) hblW6).trans g2
    have G3 := (hb67.cell (p := ⟨b, o + j * 4 + 3, none⟩) hblW6).trans g3
    have b07 : Below w.heap.size w w7 := b05.trans ((hb6.mono (by omega)).trans (hb67.mono (by omega)))
    rename_i hH
    clear hH s0 pf pf' d0 d1 d2 g0 g1 g2 g3 c6 hp6 hf6 hf6' hf hf' hSI hSA hSD
    obtain ⟨cA, rA, -⟩ := hf7.allow
    obtain ⟨cD, rD, -⟩ := hf7.deny
    have rI := hf7.inh
    clear hf7
    go_wp2_with fail
    refine (scribble _ Wa.heap.size _ _ _ XI.n XA.n XD.n _ cA cD rI rA rD tI tA tD mI mA mD (by omega)).mono ?_
    rintro e w8 ⟨vu, rfl, hb8⟩
    have z8 := hb8.size
    have hza := HZA.out
    have hp8 := hp7.below hb8 (by omega)
    have c8 := (hb8.cell (p := ⟨w4.heap.size, 0, none⟩) (by show w4.heap.size < _; omega)).trans c7
    have hba : b < Wa.heap.size := by omega
    have g0 := (hb8.cell (p := ⟨b, o + j * 4, none⟩) hba).trans G0
    have g1 := (hb8.cell (p := ⟨b, o + j * 4 + 1, none⟩) hba).trans G1
    have g2 := (hb8.cell (p := ⟨b, o + j * 4 + 2, none⟩) hba).trans G2
    have g3 := (hb8.cell (p := ⟨b, o + j * 4 + 3, none⟩) hba).trans G3
    have hf8' := hf7'.below hb8 (by omega) (by omega)
    have b08 : Below w.heap.size w w8 := b07.trans (hb8.mono (by omega))
    clear hza e0 e1 e2 G0 G1 G2 G3 c7 hp7 hf7' rI rA rD tI tA tD MKW6 hdW6
    go_wp2_with fail
    refine (roleS _ w3.heap.size _ X q hp8 hok hq (by have := HZA.out; omega)).mono ?_
    rintro e w9 ⟨vi2, va2, vd2, ok2, rfl, hfound2, -, hb9⟩
    have z9 := hb9.size
    rcases hfound2 with ⟨-, hno, -, -, -⟩ | ⟨j2, hj2', rfl, hj21, hj22, hf9⟩
    · exact absurd hj1 (hno j hj)
    obtain rfl : j = j2 := by
      rcases Nat.lt_trichotomy j j2 with hl | hl | hl
      · exact absurd hj21 (hj2 j2 hl hj2')
      · exact hl
      · exact absurd hj1 (hj22 j hl hj)
    rw [← HPJ.out] at hf9
    obtain ⟨ci, jci, rfl⟩ := hf9.inh.form
    obtain ⟨ca, jca, rfl⟩ := hf9.allow.form
    obtain ⟨cd, jcd, rfl⟩ := hf9.deny.form
    simp only [← HN.out.1, ← HN.out.2.1, ← HN.out.2.2] at hf9 ⊢
    obtain ⟨V6, hV6⟩ : ∃ V6, V6 = w9.alloc (.cells #[.slice ci ni jci, .slice ca na jca, .slice cd nd jcd] 33) := ⟨_, rfl⟩
    have hbV : Below w9.heap.size w9 V6 := by rw [hV6]; exact (Below.refl _ _).alloc (Nat.le_refl _) _
    have zV : V6.heap.size = w9.heap.size + 1 := by rw [hV6]; simp
    have HZV : Hid (V6.heap.size = w9.heap.size + 1) := zV
    have d0 : V6.cell? ⟨w9.heap.size, 0, none⟩ = some (.slice ci ni jci) := by rw [hV6]; simp
    have d1 : V6.cell? ⟨w9.heap.size, 1, none⟩ = some (.slice ca na jca) := by rw [hV6]; simp
    have d2 : V6.cell? ⟨w9.heap.size, 2, none⟩ = some (.slice cd nd jcd) := by rw [hV6]; simp
    have hza := HZA.out
    have hb8V : Below w8.heap.size w8 V6 := hb9.trans (hbV.mono z9)
    have hbw8 : b < w8.heap.size := by omega
    have g0 := (hb8V.cell (p := ⟨b, o + j * 4, none⟩) hbw8).trans g0
    have g1 := (hb8V.cell (p := ⟨b, o + j * 4 + 1, none⟩) hbw8).trans g1
    have g2 := (hb8V.cell (p := ⟨b, o + j * 4 + 2, none⟩) hbw8).trans g2
    have g3 := (hb8V.cell (p := ⟨b, o + j * 4 + 3, none⟩) hbw8).trans g3
    have yV6 : w9.heap.size < V6.heap.size := by omega
    have hblV6 : b < V6.heap.size := by omega
    have b0V : Below w.heap.size w V6 := b08.trans (hb8V.mono (by omega))
    have pf := ((hf9.below hbV (Nat.le_refl _) (by omega)).below (Below.refl V6.heap.size V6).drew (by omega) (by omega)).mono (A' := 0) (I' := 0) (J' := V6.drew.heap.size) (B' := V6.drew.heap.size) (Nat.zero_le _) (Nat.le_refl _) (by show _ ≤ V6.heap.size; omega) (by show _ ≤ V6.heap.size; omega)
    have pf' := ((hf8'.below hb8V (by omega) (by omega)).below (Below.refl V6.heap.size V6).drew (by omega) (by omega)).mono (A' := 0) (I' := 0) (J' := V6.drew.heap.size) (B' := V6.drew.heap.size) (Nat.zero_le _) (Nat.le_refl _) (by show _ ≤ V6.heap.size; omega) (by show _ ≤ V6.heap.size; omega)
    have z0V : w.heap.size ≤ V6.heap.size := b0V.size
    clear hza zV c8 hp8 hf9 hf8'
    go_upto_region 18 with fail
    rw [← hV6]
    clear hV6
    go_upto_region 20 with fail
    have mkV6 : ∀ W, Below V6.heap.size V6 W → (W.cell? ⟨w9.heap.size, 0, none⟩ = some (.slice ci ni jci) ∧ W.cell? ⟨w9.heap.size, 1, none⟩ = some (.slice ca na jca) ∧ W.cell? ⟨w9.heap.size, 2, none⟩ = some (.slice cd nd jcd) ∧ W.cell? ⟨b, o + j * 4, none⟩ = some (.string nm) ∧ W.cell? ⟨b, o + j * 4 + 1, none⟩ = some (.slice bi ni li) ∧ W.cell? ⟨b, o + j * 4 + 2, none⟩ = some (.slice ba na la) ∧ W.cell? ⟨b, o + j * 4 + 3, none⟩ = some (.slice bd nd ld) ∧ Below V6.heap.size V6 W) := fun W h =>
      ⟨(h.cell yV6).trans d0, (h.cell yV6).trans d1, (h.cell yV6).trans d2, (h.cell hblV6).trans g0, (h.cell hblV6).trans g1, (h.cell hblV6).trans g2, (h.cell hblV6).trans g3, h⟩
    have hdV6 : Below V6.heap.size V6 V6.drew := (Below.refl _ _).drew
    have s0 := mkV6 _ hdV6
    have MKV6 : Hid (∀ W, Below V6.heap.size V6 W → (W.cell? ⟨w9.heap.size, 0, none⟩ = some (.slice ci ni jci) ∧ W.cell? ⟨w9.heap.size, 1, none⟩ = some (.slice ca na jca) ∧ W.cell? ⟨w9.heap.size, 2, none⟩ = some (.slice cd nd jcd) ∧ W.cell? ⟨b, o + j * 4, none⟩ = some (.string nm) ∧ W.cell? ⟨b, o + j * 4 + 1, none⟩ = some (.slice bi ni li) ∧ W.cell? ⟨b, o + j * 4 + 2, none⟩ = some (.slice ba na la) ∧ W.cell? ⟨b, o + j * 4 + 3, none⟩ = some (.slice bd nd ld) ∧ Below V6.heap.size V6 W)) := mkV6
    clear mkV6
    go_region_held3 (fun W => (W.cell? ⟨w9.heap.size, 0, none⟩ = some (.slice ci ni jci) ∧ W.cell? ⟨w9.heap.size, 1, none⟩ = some (.slice ca na jca) ∧ W.cell? ⟨w9.heap.size, 2, none⟩ = some (.slice cd nd jcd) ∧ W.cell? ⟨b, o + j * 4, none⟩ = some (.string nm) ∧ W.cell? ⟨b, o + j * 4 + 1, none⟩ = some (.slice bi ni li) ∧ W.cell? ⟨b, o + j * 4 + 2, none⟩ = some (.slice ba na la) ∧ W.cell? ⟨b, o + j * 4 + 3, none⟩ = some (.slice bd nd ld) ∧ Below V6.heap.size V6 W))
      (first
        | exact s0
        | exact MKV6.out _ (hdV6.trans (by assumption)))
      (first
        | (go_at_call 14; refine (roleIs _ _ _ _ _ _ _ ⟨nm, XI, XA, XD⟩ pf pf' hokj).mono ?_; rintro e wt ⟨rfl, hbwt⟩))
    have hbt : Below V6.heap.size V6 wt := hdV6.trans hbwt
    clear s0 pf pf'
    go_wp2
    go_ret
    exact ⟨rfl, b0V.trans (hbt.mono z0V)⟩
end Go.Proofs.Qxb6630161a
