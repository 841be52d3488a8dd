/-
  Seat b6630161a: walks of Grants.clone and Role.clone.
-/
import Derived.Test.Qxb6630161aWalksE
namespace Go.Proofs.Qxb6630161a
open Go.RowKit

theorem cloneG (w : World) (J B : Nat) (v : Value) (X : Grs) (hx : Grants w 0 0 J B v X) (hok : X.n ≤ 1048576) (hB : B ≤ w.heap.size) (hJ : J ≤ w.heap.size) :
    Calls Try.prog 34 #[v] w fun e w' => ∃ v', e = .returned v' ∧ Grants w' w.heap.size 0 J w'.heap.size v' X ∧ Below w.heap.size w w' := by
  obtain ⟨c, h1, h2⟩ := hx
  refine (clone34 w B v X.n c h1 (fun i hi => ?_) hok hB).mono ?_
  · obtain ⟨a, k, e⟩ := (h2 i hi).form
    rw [e]; rfl
  · rintro e w' ⟨v', rfl, hr, hb⟩
    exact ⟨v', rfl, ⟨c, hr, fun i hi => (h2 i hi).below hb hJ⟩, hb⟩
theorem cloneN (w : World) (B : Nat) (v : Value) (X : Str) (hx : Strs w 0 B v X) (hok : X.n ≤ 1048576) (hB : B ≤ w.heap.size) :
    Calls Try.prog 30 #[v] w fun e w' => ∃ v', e = .returned v' ∧ Strs w' w.heap.size w'.heap.size v' X ∧ Below w.heap.size w w' :=
  clone30 w B v X.n _ hx (fun _ _ => rfl) hok hB

/-- A world behind two new blocks: the result's cells (block g + 1) are there; below them all is as it was. -/
structure TB (g m : Nat) (W2 : World) (W : World) : Prop where
  res : W.there (g + 1) 0 m
  bel : Below (g + 1) W2 W
  size : g + 2 ≤ W.heap.size
theorem TB.drew {g m : Nat} {W2 W : World} (h : TB g m W2 W) : TB g m W2 W.drew := ⟨by simpa using h.res, h.bel.drew, h.size⟩
theorem TB.below {g m : Nat} {W2 W W' : World} (hb : Below W.heap.size W W') (h : TB g m W2 W) : TB g m W2 W' := by
  have h1 := h.size
  have h2 := hb.size
  exact ⟨there_below h.res hb (by omega), h.bel.trans (hb.mono (by omega)), by omega⟩
theorem TB.setCell {g m : Nat} {W2 W : World} (h : TB g m W2 W) (j : Nat) (u : Value) : TB g m W2 (W.setCell ⟨g + 1, j, none⟩ u) :=
  ⟨there_setCell h.res _ _, h.bel.setCell (Nat.le_refl _) _, by simpa using h.size⟩
theorem TB.first (w : World) (cs ds : Array Value) (e f : TypeId) : TB w.heap.size ds.size ((w.alloc (.cells cs e)).alloc (.cells ds f)) ((w.alloc (.cells cs e)).alloc (.cells ds f)) := by
  refine ⟨fun j hj => ?_, Below.refl _ _, by simp⟩
  have : w.heap.size + 1 = (w.alloc (.cells cs e)).heap.size := by simp
  rw [this, Nat.zero_add]
  simp [hj]

theorem end31a {W : World} {J g : Nat} {v : Value} {X : Grs} {x y : Value} (h : Grants W (g + 2) 0 J W.heap.size v X) (hJ : J ≤ g) :
    Grants ((W.setCell ⟨g + 1, 0, none⟩ x).setCell ⟨g + 1, 1, none⟩ y) g 0 J ((W.setCell ⟨g + 1, 0, none⟩ x).setCell ⟨g + 1, 1, none⟩ y).heap.size v X := by
  have := (h.setCell (p := ⟨g + 1, 0, none⟩) (.inl (by show g + 1 < _; omega)) (.inr (by show J ≤ g + 1; omega)) x).setCell (p := ⟨g + 1, 1, none⟩) (.inl (by show g + 1 < _; omega)) (.inr (by show J ≤ g + 1; omega)) y
  exact this.mono (by omega) (Nat.le_refl _) (Nat.le_refl _) (by simp)
theorem end31b {w W2 W : World} {g m : Nat} {x y : Value} (hbw : Below g w W2) (hT : TB g m W2 W) : Below g w ((W.setCell ⟨g + 1, 0, none⟩ x).setCell ⟨g + 1, 1, none⟩ y) := by
  have hb : ∀ (V : World) (j : Nat) (u : Value), Below g w V → Below g w (V.setCell ⟨g + 1, j, none⟩ u) := fun V j u h => h.setCell (by show g ≤ g + 1; omega) u
  exact hb _ _ _ (hb _ _ _ (hbw.trans (hT.bel.mono (by omega))))

set_option maxHeartbeats 4000000 in
set_option maxRecDepth 100000 in
theorem grantsClone (w : World) (J B : Nat) (va vd : Value) (XA XD : Grs) (ha : Grants w 0 0 J B va XA) (hd : Grants w 0 0 J B vd XD) (ka : XA.n ≤ 1048576) (kd : XD.n ≤ 1048576) (hB : B ≤ w.heap.size) (hJ : J ≤ w.heap.size) :
    Calls Try.prog 31 #[.agg #[va, vd]] w fun e w' => ∃ va' vd', e = .returned (.agg #[va', vd']) ∧ Grants w' w.heap.size 0 J w'.heap.size va' XA ∧ Grants w' w.heap.size 0 J w'.heap.size vd' XD ∧ Below w.heap.size w w' := by
  obtain ⟨aa, ja, rfl⟩ := ha.form
  obtain ⟨ad, jd, rfl⟩ := hd.form
  have HKA : Hid (XA.n ≤ 1048576) := ka
  have HKD : Hid (XD.n ≤ 1048576) := kd
  clear ka kd
  generalize XA.n = na at ha ⊢
  generalize XD.n = nd at hd ⊢
  go_enter Try.func31, Try.ntmps31
  go_upto_region 1 with fail
  have hT := TB.first w #[.slice aa na ja, .slice ad nd jd] #[.slice none 0 0, .slice none 0 0] 31 31
  obtain ⟨W2, hW2⟩ : ∃ W2, W2 = (w.alloc (Obj.cells #[.slice aa na ja, .slice ad nd jd] 31)).alloc (Obj.cells #[Value.slice none 0 0, Value.slice none 0 0] 31) := ⟨_, rfl⟩
  rw [← hW2]
  rw [← hW2] at hT
  have c1 : W2.cell? ⟨w.heap.size, 0, none⟩ = some (.slice aa na ja) := by rw [hW2]; simp
  have c2 : W2.cell? ⟨w.heap.size, 1, none⟩ = some (.slice ad nd jd) := by rw [hW2]; simp
  have hbw : Below w.heap.size w W2 := by rw [hW2]; exact ((Below.refl _ _).alloc (Nat.le_refl _) _).alloc (by simp) _
  clear hW2
  have hT : TB w.heap.size 2 W2 W2 := hT
  have mk : ∀ W, TB w.heap.size 2 W2 W → (W.cell? ⟨w.heap.size, 0, none⟩ = some (.slice aa na ja) ∧ W.cell? ⟨w.heap.size, 1, none⟩ = some (.slice ad nd jd) ∧ W.cell? ⟨w.heap.size + 1, 0, none⟩ = some (cellOf W (w.heap.size + 1) 0) ∧ W.cell? ⟨w.heap.size + 1, 1, none⟩ = some (cellOf W (w.heap.size + 1) 1) ∧ W.frozen? ⟨w.heap.size + 1, 0, none⟩ = false ∧ W.frozen? ⟨w.heap.size + 1, 1, none⟩ = false ∧ TB w.heap.size 2 W2 W) := fun W h =>
      ⟨(h.bel.cell (by show w.heap.size < _; omega)).trans c1, (h.bel.cell (by show w.heap.size < _; omega)).trans c2, (cellOf_there h.res 0 (by omega)).1, (cellOf_there h.res 1 (by omega)).1,
        (cellOf_there h.res 0 (by omega)).2, (cellOf_there h.res 1 (by omega)).2, h⟩
  have tT : ∀ W, (W.cell? ⟨w.heap.size, 0, none⟩ = some (.slice aa na ja) ∧ W.cell? ⟨w.heap.size, 1, none⟩ = some (.slice ad nd jd) ∧ W.cell? ⟨w.heap.size + 1, 0, none⟩ = some (cellOf W (w.heap.size + 1) 0) ∧ W.cell? ⟨w.heap.size + 1, 1, none⟩ = some (cellOf W (w.heap.size + 1) 1) ∧ W.frozen? ⟨w.heap.size + 1, 0, none⟩ = false ∧ W.frozen? ⟨w.heap.size + 1, 1, none⟩ = false ∧ TB w.heap.size 2 W2 W) → TB w.heap.size 2 W2 W := fun W h => h.2.2.2.2.2.2
  have HA : Hid (∀ W, (W.cell? ⟨w.heap.size, 0, none⟩ = some (.slice aa na ja) ∧ W.cell? ⟨w.heap.size, 1, none⟩ = some (.slice ad nd jd) ∧ W.cell? ⟨w.heap.size + 1, 0, none⟩ = some (cellOf W (w.heap.size + 1) 0) ∧ W.cell? ⟨w.heap.size + 1, 1, none⟩ = some (cellOf W (w.heap.size + 1) 1) ∧ W.frozen? ⟨w.heap.size + 1, 0, none⟩ = false ∧ W.frozen? ⟨w.heap.size + 1, 1, none⟩ = false ∧ TB w.heap.size 2 W2 W) → Grants W 0 0 J B (.slice aa na ja) XA ∧ B ≤ W.heap.size ∧ J ≤ W.heap.size) := show ∀ W, _ from fun W h => ⟨(ha.below hbw hB hJ).below (tT _ h).bel (by omega) (by omega), by have := (tT _ h).size; omega, by have := (tT _ h).size; omega⟩
  have HD : Hid (∀ W, (W.cell? ⟨w.heap.size, 0, none⟩ = some (.slice aa na ja) ∧ W.cell? ⟨w.heap.size, 1, none⟩ = some (.slice ad nd jd) ∧ W.cell? ⟨w.heap.size + 1, 0, none⟩ = some (cellOf W (w.heap.size + 1) 0) ∧ W.cell? ⟨w.heap.size + 1, 1, none⟩ = some (cellOf W (w.heap.size + 1) 1) ∧ W.frozen? ⟨w.heap.size + 1, 0, none⟩ = false ∧ W.frozen? ⟨w.heap.size + 1, 1, none⟩ = false ∧ TB w.heap.size 2 W2 W) → Grants W 0 0 J B (.slice ad nd jd) XD ∧ B ≤ W.heap.size ∧ J ≤ W.heap.size) := show ∀ W, _ from fun W h => ⟨(hd.below hbw hB hJ).below (tT _ h).bel (by omega) (by omega), by have := (tT _ h).size; omega, by have := (tT _ h).size; omega⟩
  have KB : Hid (∀ W W', Below W.heap.size W W' → (W.cell? ⟨w.heap.size, 0, none⟩ = some (.slice aa na ja) ∧ W.cell? ⟨w.heap.size, 1, none⟩ = some (.slice ad nd jd) ∧ W.cell? ⟨w.heap.size + 1, 0, none⟩ = some (cellOf W (w.heap.size + 1) 0) ∧ W.cell? ⟨w.heap.size + 1, 1, none⟩ = some (cellOf W (w.heap.size + 1) 1) ∧ W.frozen? ⟨w.heap.size + 1, 0, none⟩ = false ∧ W.frozen? ⟨w.heap.size + 1, 1, none⟩ = false ∧ TB w.heap.size 2 W2 W) → (W'.cell? ⟨w.heap.size, 0, none⟩ = some (.slice aa na ja) ∧ W'.cell? ⟨w.heap.size, 1, none⟩ = some (.slice ad nd jd) ∧ W'.cell? ⟨w.heap.size + 1, 0, none⟩ = some (cellOf W' (w.heap.size + 1) 0) ∧ W'.cell? ⟨w.heap.size + 1, 1, none⟩ = some (cellOf W' (w.heap.size + 1) 1) ∧ W'.frozen? ⟨w.heap.size + 1, 0, none⟩ = false ∧ W'.frozen? ⟨w.heap.size + 1, 1, none⟩ = false ∧ TB w.heap.size 2 W2 W')) := show ∀ W W', _ from fun W W' hb h => mk _ (TB.below hb (tT _ h))
  have KS : Hid (∀ W x y, (W.cell? ⟨w.heap.size, 0, none⟩ = some (.slice aa na ja) ∧ W.cell? ⟨w.heap.size, 1, none⟩ = some (.slice ad nd jd) ∧ W.cell? ⟨w.heap.size + 1, 0, none⟩ = some (cellOf W (w.heap.size + 1) 0) ∧ W.cell? ⟨w.heap.size + 1, 1, none⟩ = some (cellOf W (w.heap.size + 1) 1) ∧ W.frozen? ⟨w.heap.size + 1, 0, none⟩ = false ∧ W.frozen? ⟨w.heap.size + 1, 1, none⟩ = false ∧ TB w.heap.size 2 W2 W) → (((W.setCell ⟨w.heap.size + 1, 0, none⟩ x).setCell ⟨w.heap.size + 1, 1, none⟩ y).cell? ⟨w.heap.size, 0, none⟩ = some (.slice aa na ja) ∧ ((W.setCell ⟨w.heap.size + 1, 0, none⟩ x).setCell ⟨w.heap.size + 1, 1, none⟩ y).cell? ⟨w.heap.size, 1, none⟩ = some (.slice ad nd jd) ∧ ((W.setCell ⟨w.heap.size + 1, 0, none⟩ x).setCell ⟨w.heap.size + 1, 1, none⟩ y).cell? ⟨w.heap.size + 1, 0, none⟩ = some (cellOf ((W.setCell ⟨w.heap.size + 1, 0, none⟩ x).setCell ⟨w.heap.size + 1, 1, none⟩ y) (w.heap.size + 1) 0) ∧ ((W.setCell ⟨w.heap.size + 1, 0, none⟩ x).setCell ⟨w.heap.size + 1, 1, none⟩ y).cell? ⟨w.heap.size + 1, 1, none⟩ = some (cellOf ((W.setCell ⟨w.heap.size + 1, 0, none⟩ x).setCell ⟨w.heap.size + 1, 1, none⟩ y) (w.heap.size + 1) 1) ∧ ((W.setCell ⟨w.heap.size + 1, 0, none⟩ x).setCell ⟨w.heap.size + 1, 1, none⟩ y).frozen? ⟨w.heap.size + 1, 0, none⟩ = false ∧ ((W.setCell ⟨w.heap.size + 1, 0, none⟩ x).setCell ⟨w.heap.size + 1, 1, none⟩ y).frozen? ⟨w.heap.size + 1, 1, none⟩ = false ∧ TB w.heap.size 2 W2 ((W.setCell ⟨w.heap.size + 1, 0, none⟩ x).setCell ⟨w.heap.size + 1, 1, none⟩ y))) := show ∀ W x y, _ from fun W x y h => mk _ (((tT _ h).setCell 0 x).setCell 1 y)
  have TT : Hid (∀ W, (W.cell? ⟨w.heap.size, 0, none⟩ = some (.slice aa na ja) ∧ W.cell? ⟨w.heap.size, 1, none⟩ = some (.slice ad nd jd) ∧ W.cell? ⟨w.heap.size + 1, 0, none⟩ = some (cellOf W (w.heap.size + 1) 0) ∧ W.cell? ⟨w.heap.size + 1, 1, none⟩ = some (cellOf W (w.heap.size + 1) 1) ∧ W.frozen? ⟨w.heap.size + 1, 0, none⟩ = false ∧ W.frozen? ⟨w.heap.size + 1, 1, none⟩ = false ∧ TB w.heap.size 2 W2 W) → TB w.heap.size 2 W2 W) := tT
  have s0 := mk _ hT.drew
  clear mk tT c1 c2 ha hd
  go_region_held3 (fun W => (W.cell? ⟨w.heap.size, 0, none⟩ = some (.slice aa na ja) ∧ W.cell? ⟨w.heap.size, 1, none⟩ = some (.slice ad nd jd) ∧ W.cell? ⟨w.heap.size + 1, 0, none⟩ = some (cellOf W (w.heap.size + 1) 0) ∧ W.cell? ⟨w.heap.size + 1, 1, none⟩ = some (cellOf W (w.heap.size + 1) 1) ∧ W.frozen? ⟨w.heap.size + 1, 0, none⟩ = false ∧ W.frozen? ⟨w.heap.size + 1, 1, none⟩ = false ∧ TB w.heap.size 2 W2 W))
    (first
      | exact s0
      | exact KB.out _ _ (by assumption) (by assumption)
      | exact KS.out _ _ _ (by assumption))
    (first
      | (go_at_call_of 34 (Value.slice aa na ja); refine (cloneG _ J B _ XA (HA.out _ (by assumption)).1 HKA.out (HA.out _ (by assumption)).2.1 (HA.out _ (by assumption)).2.2).mono ?_; rintro e w1 ⟨v1, rfl, hs1, hb1⟩; have hs2 := hs1.mono (TT.out _ (by assumption)).size (Nat.le_refl 0) (Nat.le_refl _) (Nat.le_refl _); clear hs1; obtain ⟨a1, k1, rfl⟩ := hs2.form)
      | (go_at_call_of 34 (Value.slice ad nd jd); refine (cloneG _ J B _ XD (HD.out _ (by assumption)).1 HKD.out (HD.out _ (by assumption)).2.1 (HD.out _ (by assumption)).2.2).mono ?_; rintro e w1 ⟨v1, rfl, hs1, hb1⟩; have hs2 := hs1.mono (TT.out _ (by assumption)).size (Nat.le_refl 0) (Nat.le_refl _) (Nat.le_refl _); clear hs1; obtain ⟨a1, k1, rfl⟩ := hs2.form))
  all_goals
    have hTm := TB.below (W := W2.drew) (by assumption) hT.drew
    have hT' := TB.below hb1 hTm
    have hszm := hTm.size
    have e0 := (cellOf_there hT'.res 0 (by omega)).1
    have e1 := (cellOf_there hT'.res 1 (by omega)).1
    go_wp2
    refine bodyPost_ret (v := .agg #[.slice _ XA.n _, .slice _ XD.n _]) (by simp [results, Try.results31, go_sem, e0, e1]; exact ⟨⟨rfl, rfl⟩, rfl, rfl⟩) rfl ⟨_, _, rfl, end31a ?_ hJ, end31a ?_ hJ, end31b hbw hT'⟩
  all_goals first
    | exact hs2
    | exact (Grants.below (by assumption) hb1 (Nat.le_refl _) (by omega)).mono (Nat.le_refl _) (Nat.le_refl _) (Nat.le_refl _) hb1.size

theorem end25 {w W2 W : World} {J g : Nat} {vi va vd : Value} {X : Sp} {x y z : Value} (hbw : Below g w W2) (hT : TB g 3 W2 W) (hi : Strs W (g + 2) W.heap.size vi X.inh) (ha : Grants W (g + 2) 0 J W.heap.size va X.allow)
    (hd : Grants W (g + 2) 0 J W.heap.size vd X.deny) (hJ : J ≤ g) :
    Fields (((W.setCell ⟨g + 1, 0, none⟩ x).setCell ⟨g + 1, 1, none⟩ y).setCell ⟨g + 1, 2, none⟩ z) g 0 J (((W.setCell ⟨g + 1, 0, none⟩ x).setCell ⟨g + 1, 1, none⟩ y).setCell ⟨g + 1, 2, none⟩ z).heap.size vi va vd X ∧
      Below g w (((W.setCell ⟨g + 1, 0, none⟩ x).setCell ⟨g + 1, 1, none⟩ y).setCell ⟨g + 1, 2, none⟩ z) := by
  have hF : Fields W (g + 2) 0 J W.heap.size vi va vd X := ⟨hi, ha, hd⟩
  refine ⟨?_, ?_⟩
  · have := ((hF.setCell (p := ⟨g + 1, 0, none⟩) (.inl (by show g + 1 < _; omega)) (.inr (by show J ≤ g + 1; omega)) x).setCell (p := ⟨g + 1, 1, none⟩) (.inl (by show g + 1 < _; omega)) (.inr (by show J ≤ g + 1; omega)) y).setCell
      (p := ⟨g + 1, 2, none⟩) (.inl (by show g + 1 < _; omega)) (.inr (by show J ≤ g + 1; omega)) z
    exact this.mono (by omega) (Nat.le_refl _) (Nat.le_refl _) (by simp)
  · have hb : ∀ (V : World) (j : Nat) (u : Value), Below g w V → Below g w (V.setCell ⟨g + 1, j, none⟩ u) := fun V j u h => h.setCell (by show g ≤ g + 1; omega) u
    exact hb _ _ _ (hb _ _ _ (hb _ _ _ (hbw.trans (hT.bel.mono (by omega)))))

set_option maxHeartbeats 4000000 in
set_option maxRecDepth 100000 in
theorem roleClone (w : World) (J B : Nat) (vi va vd : Value) (X : Sp) (hx : Fields w 0 0 J B vi va vd X) (hok : X.ok) (hB : B ≤ w.heap.size) (hJ : J ≤ w.heap.size) :
    Calls Try.prog 25 #[.agg #[vi, va, vd]] w fun e w' => ∃ vi' va' vd', e = .returned (.agg #[vi', va', vd']) ∧ Fields w' w.heap.size 0 J w'.heap.size vi' va' vd' X ∧ Below w.heap.size w w' := by
  obtain ⟨s, XI, XA, XD⟩ := X
  obtain ⟨hi, ha, hd⟩ := hx
  obtain ⟨ki, ka, kd⟩ := hok
  simp only at hi ha hd ki ka kd ⊢
  obtain ⟨ai, ji, rfl⟩ := hi.form
  obtain ⟨aa, ja, rfl⟩ := ha.form
  obtain ⟨ad, jd, rfl⟩ := hd.form
  have HKI : Hid (XI.n ≤ 1048576) := ki
  have HKA : Hid (XA.n ≤ 1048576) := ka.1
  have HKD : Hid (XD.n ≤ 1048576) := kd.1
  clear ki ka kd
  generalize XI.n = ni at hi ⊢
  generalize XA.n = na at ha ⊢
  generalize XD.n = nd at hd ⊢
  go_enter Try.func25, Try.ntmps25
  go_upto_region 1 with fail
  have hT := TB.first w #[.slice ai ni ji, .slice aa na ja, .slice ad nd jd] #[.slice none 0 0, .slice none 0 0, .slice none 0 0] 33 33
  obtain ⟨W2, hW2⟩ : ∃ W2, W2 = (w.alloc (Obj.cells #[.slice ai ni ji, .slice aa na ja, .slice ad nd jd] 33)).alloc (Obj.cells #[Value.slice none 0 0, Value.slice none 0 0, Value.slice none 0 0] 33) := ⟨_, rfl⟩
  rw [← hW2]
  rw [← hW2] at hT
  have c0 : W2.cell? ⟨w.heap.size, 0, none⟩ = some (.slice ai ni ji) := by rw [hW2]; simp
  have c1 : W2.cell? ⟨w.heap.size, 1, none⟩ = some (.slice aa na ja) := by rw [hW2]; simp
  have c2 : W2.cell? ⟨w.heap.size, 2, none⟩ = some (.slice ad nd jd) := by rw [hW2]; simp
  have hbw : Below w.heap.size w W2 := by rw [hW2]; exact ((Below.refl _ _).alloc (Nat.le_refl _) _).alloc (by simp) _
  clear hW2
  have hT : TB w.heap.size 3 W2 W2 := hT
  have mk : ∀ W, TB w.heap.size 3 W2 W → (W.cell? ⟨w.heap.size, 0, none⟩ = some (.slice ai ni ji) ∧ W.cell? ⟨w.heap.size, 1, none⟩ = some (.slice aa na ja) ∧ W.cell? ⟨w.heap.size, 2, none⟩ = some (.slice ad nd jd) ∧ W.cell? ⟨w.heap.size + 1, 0, none⟩ = some (cellOf W (w.heap.size + 1) 0) ∧ W.cell? ⟨w.heap.size + 1, 1, none⟩ = some (cellOf W (w.heap.size + 1) 1) ∧ W.cell? ⟨w.heap.size + 1, 2, none⟩ = some (cellOf W (w.heap.size + 1) 2) ∧ W.frozen? ⟨w.heap.size + 1, 0, none⟩ = false ∧ W.frozen? ⟨w.heap.size + 1, 1, none⟩ = false ∧ W.frozen? ⟨w.heap.size + 1, 2, none⟩ = false ∧ TB w.heap.size 3 W2 W) := fun W h =>
      ⟨(h.bel.cell (by show w.heap.size < _; omega)).trans c0, (h.bel.cell (by show w.heap.size < _; omega)).trans c1, (h.bel.cell (by show w.heap.size < _; omega)).trans c2, (cellOf_there h.res 0 (by omega)).1, (cellOf_there h.res 1 (by omega)).1, (cellOf_there h.res 2 (by omega)).1,
        (cellOf_there h.res 0 (by omega)).2, (cellOf_there h.res 1 (by omega)).2, (cellOf_there h.res 2 (by omega)).2, h⟩
  have tT : ∀ W, (W.cell? ⟨w.heap.size, 0, none⟩ = some (.slice ai ni ji) ∧ W.cell? ⟨w.heap.size, 1, none⟩ = some (.slice aa na ja) ∧ W.cell? ⟨w.heap.size, 2, none⟩ = some (.slice ad nd jd) ∧ W.cell? ⟨w.heap.size + 1, 0, none⟩ = some (cellOf W (w.heap.size + 1) 0) ∧ W.cell? ⟨w.heap.size + 1, 1, none⟩ = some (cellOf W (w.heap.size + 1) 1) ∧ W.cell? ⟨w.heap.size + 1, 2, none⟩ = some (cellOf W (w.heap.size + 1) 2) ∧ W.frozen? ⟨w.heap.size + 1, 0, none⟩ = false ∧ W.frozen? ⟨w.heap.size + 1, 1, none⟩ = false ∧ W.frozen? ⟨w.heap.size + 1, 2, none⟩ = false ∧ TB w.heap.size 3 W2 W) → TB w.heap.size 3 W2 W := fun W h => h.2.2.2.2.2.2.2.2.2
  have HI : Hid (∀ W, (W.cell? ⟨w.heap.size, 0, none⟩ = some (.slice ai ni ji) ∧ W.cell? ⟨w.heap.size, 1, none⟩ = some (.slice aa na ja) ∧ W.cell? ⟨w.heap.size, 2, none⟩ = some (.slice ad nd jd) ∧ W.cell? ⟨w.heap.size + 1, 0, none⟩ = some (cellOf W (w.heap.size + 1) 0) ∧ W.cell? ⟨w.heap.size + 1, 1, none⟩ = some (cellOf W (w.heap.size + 1) 1) ∧ W.cell? ⟨w.heap.size + 1, 2, none⟩ = some (cellOf W (w.heap.size + 1) 2) ∧ W.frozen? ⟨w.heap.size + 1, 0, none⟩ = false ∧ W.frozen? ⟨w.heap.size + 1, 1, none⟩ = false ∧ W.frozen? ⟨w.heap.size + 1, 2, none⟩ = false ∧ TB w.heap.size 3 W2 W) → Strs W 0 B (.slice ai ni ji) XI ∧ B ≤ W.heap.size) := show ∀ W, _ from fun W h => ⟨(hi.below hbw hB).below (tT _ h).bel (by omega), by have := (tT _ h).size; omega⟩
  have HA : Hid (∀ W, (W.cell? ⟨w.heap.size, 0, none⟩ = some (.slice ai ni ji) ∧ W.cell? ⟨w.heap.size, 1, none⟩ = some (.slice aa na ja) ∧ W.cell? ⟨w.heap.size, 2, none⟩ = some (.slice ad nd jd) ∧ W.cell? ⟨w.heap.size + 1, 0, none⟩ = some (cellOf W (w.heap.size + 1) 0) ∧ W.cell? ⟨w.heap.size + 1, 1, none⟩ = some (cellOf W (w.heap.size + 1) 1) ∧ W.cell? ⟨w.heap.size + 1, 2, none⟩ = some (cellOf W (w.heap.size + 1) 2) ∧ W.frozen? ⟨w.heap.size + 1, 0, none⟩ = false ∧ W.frozen? ⟨w.heap.size + 1, 1, none⟩ = false ∧ W.frozen? ⟨w.heap.size + 1, 2, none⟩ = false ∧ TB w.heap.size 3 W2 W) → (Grants W 0 0 J B (.slice aa na ja) XA ∧ Grants W 0 0 J B (.slice ad nd jd) XD) ∧ B ≤ W.heap.size ∧ J ≤ W.heap.size) := show ∀ W, _ from fun W h => ⟨⟨(ha.below hbw hB hJ).below (tT _ h).bel (by omega) (by omega), (hd.below hbw hB hJ).below (tT _ h).bel (by omega) (by omega)⟩, by have := (tT _ h).size; omega, by have := (tT _ h).size; omega⟩
  have KB : Hid (∀ W W', Below W.heap.size W W' → (W.cell? ⟨w.heap.size, 0, none⟩ = some (.slice ai ni ji) ∧ W.cell? ⟨w.heap.size, 1, none⟩ = some (.slice aa na ja) ∧ W.cell? ⟨w.heap.size, 2, none⟩ = some (.slice ad nd jd) ∧ W.cell? ⟨w.heap.size + 1, 0, none⟩ = some (cellOf W (w.heap.size + 1) 0) ∧ W.cell? ⟨w.heap.size + 1, 1, none⟩ = some (cellOf W (w.heap.size + 1) 1) ∧ W.cell? ⟨w.heap.size + 1, 2, none⟩ = some (cellOf W (w.heap.size + 1) 2) ∧ W.frozen? ⟨w.heap.size + 1, 0, none⟩ = false ∧ W.frozen? ⟨w.heap.size + 1, 1, none⟩ = false ∧ W.frozen? ⟨w.heap.size + 1, 2, none⟩ = false ∧ TB w.heap.size 3 W2 W) → (W'.cell? ⟨w.heap.size, 0, none⟩ = some (.slice ai ni ji) ∧ W'.cell? ⟨w.heap.size, 1, none⟩ = some (.slice aa na ja) ∧ W'.cell? ⟨w.heap.size, 2, none⟩ = some (.slice ad nd jd) ∧ W'.cell? ⟨w.heap.size + 1, 0, none⟩ = some (cellOf W' (w.heap.size + 1) 0) ∧ W'.cell? ⟨w.heap.size + 1, 1, none⟩ = some (cellOf W' (w.heap.size + 1) 1) ∧ W'.cell? ⟨w.heap.size + 1, 2, none⟩ = some (cellOf W' (w.heap.size + 1) 2) ∧ W'.frozen? ⟨w.heap.size + 1, 0, none⟩ = false ∧ W'.frozen? ⟨w.heap.size + 1, 1, none⟩ = false ∧ W'.frozen? ⟨w.heap.size + 1, 2, none⟩ = false ∧ TB w.heap.size 3 W2 W')) := show ∀ W W', _ from fun W W' hb h => mk _ (TB.below hb (tT _ h))
  have KS : Hid (∀ W x y z, (W.cell? ⟨w.heap.size, 0, none⟩ = some (.slice ai ni ji) ∧ W.cell? ⟨w.heap.size, 1, none⟩ = some (.slice aa na ja) ∧ W.cell? ⟨w.heap.size, 2, none⟩ = some (.slice ad nd jd) ∧ W.cell? ⟨w.heap.size + 1, 0, none⟩ = some (cellOf W (w.heap.size + 1) 0) ∧ W.cell? ⟨w.heap.size + 1, 1, none⟩ = some (cellOf W (w.heap.size + 1) 1) ∧ W.cell? ⟨w.heap.size + 1, 2, none⟩ = some (cellOf W (w.heap.size + 1) 2) ∧ W.frozen? ⟨w.heap.size + 1, 0, none⟩ = false ∧ W.frozen? ⟨w.heap.size + 1, 1, none⟩ = false ∧ W.frozen? ⟨w.heap.size + 1, 2, none⟩ = false ∧ TB w.heap.size 3 W2 W) → ((((W.setCell ⟨w.heap.size + 1, 0, none⟩ x).setCell ⟨w.heap.size + 1, 1, none⟩ y).setCell ⟨w.heap.size + 1, 2, none⟩ z).cell? ⟨w.heap.size, 0, none⟩ = some (.slice ai ni ji) ∧ (((W.setCell ⟨w.heap.size + 1, 0, none⟩ x).setCell ⟨w.heap.size + 1, 1, none⟩ y).setCell ⟨w.heap.size + 1, 2, none⟩ z).cell? ⟨w.heap.size, 1, none⟩ = some (.slice aa na ja) ∧ (((W.setCell ⟨w.heap.size + 1, 0, none⟩ x).setCell ⟨w.heap.size + 1, 1, none⟩ y).setCell ⟨w.heap.size + 1, 2, none⟩ z).cell? ⟨w.heap.size, 2, none⟩ = some (.slice ad nd jd) ∧ (((W.setCell ⟨w.heap.size + 1, 0, none⟩ x).setCell ⟨w.heap.size + 1, 1, none⟩ y).setCell ⟨w.heap.size + 1, 2, none⟩ z).cell? ⟨w.heap.size + 1, 0, none⟩ = some (cellOf (((W.setCell ⟨w.heap.size + 1, 0, none⟩ x).setCell ⟨w.heap.size + 1, 1, none⟩ y).setCell ⟨w.heap.size + 1, 2, none⟩ z) (w.heap.size + 1) 0) ∧ (((W.setCell ⟨w.heap.size + 1, 0, none⟩ x).setCell ⟨w.heap.size + 1, 1, none⟩ y).setCell ⟨w.heap.size + 1, 2, none⟩ z).cell? ⟨w.heap.size + 1, 1, none⟩ = some (cellOf (((W.setCell ⟨w.heap.size + 1, 0, none⟩ x).setCell ⟨w.heap.size + 1, 1, none⟩ y).setCell ⟨w.heap.size + 1, 2, none⟩ z) (w.heap.size + 1) 1) ∧ (((W.setCell ⟨w.heap.size + 1, 0, none⟩ x).setCell ⟨w.heap.size + 1, 1, none⟩ y).setCell ⟨w.heap.size + 1, 2, none⟩ z).cell? ⟨w.heap.size + 1, 2, none⟩ = some (cellOf (((W.setCell ⟨w.heap.size + 1, 0, none⟩ x).setCell ⟨w.heap.size + 1, 1, none⟩ y).setCell ⟨w.heap.size + 1, 2, none⟩ z) (w.heap.size + 1) 2) ∧ (((W.setCell ⟨w.heap.size + 1, 0, none⟩ x).setCell ⟨w.heap.size + 1, 1, none⟩ y).setCell ⟨w.heap.size + 1, 2, none⟩ z).frozen? ⟨w.heap.size + 1, 0, none⟩ = false ∧ (((W.setCell ⟨w.heap.size + 1, 0, none⟩ x).setCell ⟨w.heap.size + 1, 1, none⟩ y).setCell ⟨w.heap.size + 1, 2, none⟩ z).frozen? ⟨w.heap.size + 1, 1, none⟩ = false ∧ (((W.setCell ⟨w.heap.size + 1, 0, none⟩ x).setCell ⟨w.heap.size + 1, 1, none⟩ y).setCell ⟨w.heap.size + 1, 2, none⟩ z).frozen? ⟨w.heap.size + 1, 2, none⟩ = false ∧ TB w.heap.size 3 W2 (((W.setCell ⟨w.heap.size + 1, 0, none⟩ x).setCell ⟨w.heap.size + 1, 1, none⟩ y).setCell ⟨w.heap.size + 1, 2, none⟩ z))) := show ∀ W x y z, _ from fun W x y z h => mk _ ((((tT _ h).setCell 0 x).setCell 1 y).setCell 2 z)
  have TT : Hid (∀ W, (W.cell? ⟨w.heap.size, 0, none⟩ = some (.slice ai ni ji) ∧ W.cell? ⟨w.heap.size, 1, none⟩ = some (.slice aa na ja) ∧ W.cell? ⟨w.heap.size, 2, none⟩ = some (.slice ad nd jd) ∧ W.cell? ⟨w.heap.size + 1, 0, none⟩ = some (cellOf W (w.heap.size + 1) 0) ∧ W.cell? ⟨w.heap.size + 1, 1, none⟩ = some (cellOf W (w.heap.size + 1) 1) ∧ W.cell? ⟨w.heap.size + 1, 2, none⟩ = some (cellOf W (w.heap.size + 1) 2) ∧ W.frozen? ⟨w.heap.size + 1, 0, none⟩ = false ∧ W.frozen? ⟨w.heap.size + 1, 1, none⟩ = false ∧ W.frozen? ⟨w.heap.size + 1, 2, none⟩ = false ∧ TB w.heap.size 3 W2 W) → TB w.heap.size 3 W2 W) := tT
  have s0 := mk _ hT.drew
  clear mk tT c0 c1 c2 hi ha hd
  go_region_held3 (fun W => (W.cell? ⟨w.heap.size, 0, none⟩ = some (.slice ai ni ji) ∧ W.cell? ⟨w.heap.size, 1, none⟩ = some (.slice aa na ja) ∧ W.cell? ⟨w.heap.size, 2, none⟩ = some (.slice ad nd jd) ∧ W.cell? ⟨w.heap.size + 1, 0, none⟩ = some (cellOf W (w.heap.size + 1) 0) ∧ W.cell? ⟨w.heap.size + 1, 1, none⟩ = some (cellOf W (w.heap.size + 1) 1) ∧ W.cell? ⟨w.heap.size + 1, 2, none⟩ = some (cellOf W (w.heap.size + 1) 2) ∧ W.frozen? ⟨w.heap.size + 1, 0, none⟩ = false ∧ W.frozen? ⟨w.heap.size + 1, 1, none⟩ = false ∧ W.frozen? ⟨w.heap.size + 1, 2, none⟩ = false ∧ TB w.heap.size 3 W2 W))
    (first
      | exact s0
      | exact KB.out _ _ (by assumption) (by assumption)
      | exact KS.out _ _ _ _ (by assumption))
    (first
      | (go_at_call 30; refine (cloneN _ B _ XI (HI.out _ (by assumption)).1 HKI.out (HI.out _ (by assumption)).2).mono ?_; rintro e w1 ⟨v1, rfl, hs1, hb1⟩; have hs2 := hs1.mono (TT.out _ (by assumption)).size (Nat.le_refl _); clear hs1; obtain ⟨a1, k1, rfl⟩ := hs2.form)
      | (go_at_call 31; refine (grantsClone _ J B _ _ XA XD (HA.out _ (by assumption)).1.1 (HA.out _ (by assumption)).1.2 HKA.out HKD.out (HA.out _ (by assumption)).2.1 (HA.out _ (by assumption)).2.2).mono ?_; rintro e w1 ⟨v1, v2, rfl, hs1, ht1, hb1⟩; have hs2 := hs1.mono (TT.out _ (by assumption)).size (Nat.le_refl 0) (Nat.le_refl _) (Nat.le_refl _); have ht2 := ht1.mono (TT.out _ (by assumption)).size (Nat.le_refl 0) (Nat.le_refl _) (Nat.le_refl _); clear hs1 ht1; obtain ⟨a1, k1, rfl⟩ := hs2.form; obtain ⟨a2, k2, rfl⟩ := ht2.form))
  all_goals
    have hTm := TB.below (W := W2.drew) (by assumption) hT.drew
    have hT' := TB.below hb1 hTm
    have hszm := hTm.size
    have e0 := (cellOf_there hT'.res 0 (by omega)).1
    have e1 := (cellOf_there hT'.res 1 (by omega)).1
    have e2 := (cellOf_there hT'.res 2 (by omega)).1
    go_wp2
    refine bodyPost_ret (v := .agg #[.slice _ XI.n _, .slice _ XA.n _, .slice _ XD.n _]) (by simp [results, Try.results25, go_sem, e0, e1, e2]; exact ⟨⟨rfl, rfl⟩, ⟨rfl, rfl⟩, rfl, rfl⟩) rfl ⟨_, _, _, rfl, end25 hbw hT' ?_ ?_ ?_ hJ⟩
  all_goals first
    | exact hs2
    | exact ht2
    | exact (Grants.below (by assumption) hb1 (Nat.le_refl _) (by omega)).mono (Nat.le_refl _) (Nat.le_refl _) (Nat.le_refl _) hb1.size
    | exact (Strs.below (by assumption) hb1 (Nat.le_refl _)).mono (Nat.le_refl _) hb1.size
end Go.Proofs.Qxb6630161a
