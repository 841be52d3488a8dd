/-
  Seat b6630161a: the walk of zzToRole.
-/
import Derived.Test.Qxb6630161aWalksA
namespace Go.Proofs.Qxb6630161a
open Go.RowKit

theorem Below.setCells {B b : Nat} (hb : B ≤ b) : ∀ (l : List Value) (o : Nat) {a w : World}, Below B a w → Below B a (w.setCells b o l)
  | [], _, _, _, h => h
  | v :: r, o, _, w, h => by rw [World.setCells]; exact Below.setCells hb r (o + 1) (h.setCell (p := ⟨b, o, none⟩) hb v)
theorem size_setCells (b : Nat) : ∀ (l : List Value) (o : Nat) (w : World), (w.setCells b o l).heap.size = w.heap.size
  | [], _, _ => rfl
  | v :: r, o, w => by rw [World.setCells, size_setCells b r]; simp
theorem Row.setCells {A B b : Nat} {v : Value} {n : Nat} {c : Nat → Value} (hb : b < A ∨ B ≤ b) : ∀ (l : List Value) (o : Nat) {w : World}, Row w A B v n c → Row (w.setCells b o l) A B v n c
  | [], _, _, h => h
  | x :: r, o, w, h => by rw [World.setCells]; exact Row.setCells hb r (o + 1) (h.setCell (p := ⟨b, o, none⟩) hb x)
theorem there_below {w w' : World} {B b o n : Nat} (h : w.there b o n) (hb : Below B w w') (hlt : b < B) : w'.there b o n := fun j hj => by
  obtain ⟨h1, h2⟩ := h j hj
  exact ⟨by rw [hb.cell hlt]; exact h1, by rw [hb.frozen hlt]; exact h2⟩

/-- What the cell holds. -/
def cellOf (w : World) (b j : Nat) : Value := (w.cell? ⟨b, j, none⟩).getD undef
theorem cellOf_there {w : World} {b n : Nat} (h : w.there b 0 n) (j : Nat) (hj : j < n) : w.cell? ⟨b, j, none⟩ = some (cellOf w b j) ∧ w.frozen? ⟨b, j, none⟩ = false := by
  obtain ⟨h1, h2⟩ := h j hj
  rw [Nat.zero_add] at h1 h2
  refine ⟨?_, h2⟩
  obtain ⟨u, hu⟩ := Option.isSome_iff_exists.1 h1
  simp [cellOf, hu]

/-- What the last statement of zzToRole finds: the struct's cells (block g), the result's cells (block g + 1), the inherited names. -/
structure T23 (g : Nat) (W2 : World) (v3 : Value) (X : Str) (W : World) : Prop where
  res : W.there (g + 1) 0 3
  bel : Below (g + 1) W2 W
  size : g + 2 ≤ W.heap.size
  inh : Strs W (g + 2) W.heap.size v3 X
theorem T23.drew {g : Nat} {W2 : World} {v3 : Value} {X : Str} {W : World} (h : T23 g W2 v3 X W) : T23 g W2 v3 X W.drew := ⟨by simpa using h.res, h.bel.drew, h.size, h.inh.below (Below.refl W.heap.size W).drew (Nat.le_refl _)⟩
theorem T23.below {g : Nat} {W2 : World} {v3 : Value} {X : Str} {W W' : World} (hb : Below W.heap.size W W') (h : T23 g W2 v3 X W) : T23 g W2 v3 X W' := by
  have h1 := h.size
  have h2 := hb.size
  exact ⟨there_below h.res hb (by omega), h.bel.trans (hb.mono (by omega)), by omega, (h.inh.below hb (Nat.le_refl _)).mono (Nat.le_refl _) h2⟩
theorem there_setCell {w : World} {b o n : Nat} (h : w.there b o n) (p : Addr) (u : Value) : (w.setCell p u).there b o n := by
  have := World.there_setCells h p.block p.off [u]
  intro j hj
  obtain ⟨h1, h2⟩ := h j hj
  refine ⟨?_, by rw [World.frozen?_setCell]; exact h2⟩
  obtain ⟨x, hx⟩ := Option.isSome_iff_exists.1 h1
  obtain ⟨y, hy⟩ := cell?_setCell_some (p := p) (x := u) hx
  rw [hy]; rfl
theorem T23.setCell {g : Nat} {W2 : World} {v3 : Value} {X : Str} {W : World} (h : T23 g W2 v3 X W) (j : Nat) (u : Value) : T23 g W2 v3 X (W.setCell ⟨g + 1, j, none⟩ u) :=
  ⟨there_setCell h.res _ _, h.bel.setCell (Nat.le_refl _) _, by simpa using h.size, by simpa using h.inh.setCell (p := ⟨g + 1, j, none⟩) (.inl (by show g + 1 < g + 2; omega)) u⟩

theorem end23 {w W2 W : World} {B g n : Nat} {a3 : Option Addr} {k3 : Nat} {S : Nat → ByteArray} {s : ByteArray} {XA XD : Grs} {va vd : Value} (hbw : Below g w W2) (hT : T23 g W2 (.slice a3 n k3) ⟨n, S⟩ W)
    (hA : Grants W (g + 2) 0 B W.heap.size va XA) (hD : Grants W (g + 2) 0 B W.heap.size vd XD) (hB : B ≤ g) {x y z : Value} :
    Fields (((W.setCell ⟨g + 1, 0, none⟩ x).setCell ⟨g + 1, 1, none⟩ y).setCell ⟨g + 1, 2, none⟩ z) g 0 B (((W.setCell ⟨g + 1, 0, none⟩ x).setCell ⟨g + 1, 1, none⟩ y).setCell ⟨g + 1, 2, none⟩ z).heap.size (.slice a3 n k3) va vd
      ⟨s, ⟨n, S⟩, XA, XD⟩ ∧ Below g w (((W.setCell ⟨g + 1, 0, none⟩ x).setCell ⟨g + 1, 1, none⟩ y).setCell ⟨g + 1, 2, none⟩ z) := by
  have hF : Fields W (g + 2) 0 B W.heap.size (.slice a3 n k3) va vd ⟨s, ⟨n, S⟩, XA, XD⟩ := ⟨hT.inh, hA, hD⟩
  refine ⟨?_, ?_⟩
  · have := ((hF.setCell (p := ⟨g + 1, 0, none⟩) (.inl (by show g + 1 < _; omega)) (.inr (by show B ≤ g + 1; omega)) x).setCell (p := ⟨g + 1, 1, none⟩) (.inl (by show g + 1 < _; omega)) (.inr (by show B ≤ g + 1; omega)) y).setCell
      (p := ⟨g + 1, 2, none⟩) (.inl (by show g + 1 < _; omega)) (.inr (by show B ≤ g + 1; omega)) z
    exact this.mono (by omega) (Nat.le_refl _) (Nat.le_refl _) (by simp)
  · have hb : ∀ (V : World) (j : Nat) (u : Value), Below g w V → Below g w (V.setCell ⟨g + 1, j, none⟩ u) := fun V j u h => h.setCell (by show g ≤ g + 1; omega) u
    exact hb _ _ _ (hb _ _ _ (hb _ _ _ (hbw.trans (hT.bel.mono (by omega)))))

set_option maxHeartbeats 4000000 in
set_option maxRecDepth 100000 in
theorem toRole (w : World) (B : Nat) (vi va vd : Value) (X : Sp) (hx : Fields w 0 0 B B vi va vd X) (hok : X.ok) (hB : B ≤ w.heap.size) :
    Calls Try.prog 23 #[.agg #[.string X.name, vi, va, vd]] w fun e w' => ∃ vi' va' vd', e = .returned (.agg #[vi', va', vd']) ∧ Fields w' w.heap.size 0 B w'.heap.size vi' va' vd' X ∧ Below w.heap.size w w' := by
  obtain ⟨s, ⟨n, S⟩, XA, XD⟩ := X
  obtain ⟨hi, ha, hd⟩ := hx
  obtain ⟨ki, ka, kd⟩ := hok
  unfold Strs at hi
  unfold Str.ok at ki
  simp only at hi ki ha hd ka kd ⊢
  have hmk := run_make_rowN 28 37 _ 1 16 Try.underlying28 Try.info37 .i64 .i64 n (by omega) (by omega)
  simp only [Nat.mul_one] at hmk
  have h1 := fun w a n c n' c' => run_neq_slice_nil_any (P := Try.prog) w 42 9 a n c n' c' Try.underlying42
  obtain ⟨ao, kk, rfl, hc⟩ := hi
  obtain ⟨aa, ja, hva⟩ := ha.form
  obtain ⟨ad, jd, hvd⟩ := hd.form
  subst hva hvd
  generalize XA.n = na at ha ⊢
  generalize XD.n = nd at hd ⊢
  go_enter Try.func23, Try.ntmps23
  go_upto_if 7 with fail
  obtain ⟨W2, hW2⟩ : ∃ W2, W2 = (w.alloc (Obj.cells #[Value.string s, Value.slice ao n kk, Value.slice aa na ja, Value.slice ad nd jd] 45)).alloc
      (Obj.cells #[Value.slice none 0 0, Value.slice none 0 0, Value.slice none 0 0] 33) := ⟨_, rfl⟩
  rw [← hW2]
  have c1 : W2.cell? ⟨w.heap.size, 1, none⟩ = some (.slice ao n kk) := by rw [hW2]; simp
  have c2 : W2.cell? ⟨w.heap.size, 2, none⟩ = some (.slice aa na ja) := by rw [hW2]; simp
  have c3 : W2.cell? ⟨w.heap.size, 3, none⟩ = some (.slice ad nd jd) := by rw [hW2]; simp
  have d0 : W2.cell? ⟨w.heap.size + 1, 0, none⟩ = some (.slice none 0 0) := by rw [hW2]; simp
  have d1 : W2.cell? ⟨w.heap.size + 1, 1, none⟩ = some (.slice none 0 0) := by rw [hW2]; simp
  have d2 : W2.cell? ⟨w.heap.size + 1, 2, none⟩ = some (.slice none 0 0) := by rw [hW2]; simp
  have z0 : W2.frozen? ⟨w.heap.size + 1, 0, none⟩ = false := by rw [hW2]; simp
  have z1 : W2.frozen? ⟨w.heap.size + 1, 1, none⟩ = false := by rw [hW2]; simp
  have z2 : W2.frozen? ⟨w.heap.size + 1, 2, none⟩ = false := by rw [hW2]; simp
  have hsz2 : W2.heap.size = w.heap.size + 2 := by rw [hW2]; simp
  have hbw : Below w.heap.size w W2 := by rw [hW2]; exact ((Below.refl _ _).alloc (Nat.le_refl _) _).alloc (by simp) _
  clear hW2
  have HZ : Hid (W2.heap.size = w.heap.size + 2) := hsz2
  go_cut [3] (fun v3 wc => Strs wc (w.heap.size + 2) wc.heap.size v3 ⟨n, S⟩ ∧ Below W2.heap.size W2 wc)
  case first =>
    clear hsz2
    cases ao with
    | none =>
      have hn : n = 0 := by
        rcases Nat.eq_zero_or_pos n with h | h
        · exact h
        · obtain ⟨b, o, h, _⟩ := hc h; cases h
      subst hn
      go_wp2
      go_meet
      exact ⟨row_empty _ _ _ _ _ _, Below.refl _ _⟩
    | some a =>
      have hm0 := made_newN W2 (Value.agg #[.string ⟨#[]⟩]).cells n 37 (fun i => .string (S i))
      go_wp2
      go_loopg [4] n (fun g i wr => ∃ k : Nat, i = .int .i64 k ∧ k ≤ n ∧ g = n - k ∧ W2.heap.size < wr.heap.size ∧ Made wr W2.heap.size n (fun i => .string (S i)) k ∧ Below W2.heap.size W2 wr)
      case atStart => exact ⟨0, rfl, by omega, by omega, by simp, hm0, (Below.refl _ _).alloc (Nat.le_refl _) _⟩
      case round =>
        obtain ⟨k, rfl, hk, hg, hsz, hm, hbel⟩ := hrel
        have c1' : wr.cell? ⟨w.heap.size, 1, none⟩ = some (.slice (some a) n kk) := (hbel.cell (by show w.heap.size < _; have := HZ.out; omega)).trans c1
        by_cases hlt : k < n
        · obtain ⟨b, o, ho, hb, hc'⟩ := hc (by omega)
          obtain rfl : a = ⟨b, o, none⟩ := by simpa using ho
          have g1 : wr.cell? ⟨b, o + k, none⟩ = some (.string (S k)) := (hbel.cell (by show b < _; have := HZ.out; omega)).trans ((hbw.cell (by show b < _; omega)).trans (hc' k hlt))
          clear hc' hc ho
          go_wp2_with fail
          refine (zzRoleName _ _).mono ?_
          rintro e w1 ⟨rfl, hb1⟩
          obtain ⟨f1, f2⟩ := (hm.below hb1 hsz).1 k hlt
          obtain ⟨u, f1⟩ := Option.isSome_iff_exists.1 f1
          have hsz1 := hb1.size
          go_wp2
          go_roundg (gk - 1)
          case measure => omega
          case rel =>
            exact ⟨k + 1, by go_num, by omega, by omega, by simp; omega, (hm.below hb1 hsz).setCell hlt, (hbel.trans (hb1.mono (by omega))).setCell (by simp) _⟩
        · obtain rfl : k = n := by omega
          go_wp2
          go_meet
          exact ⟨hm.row ⟨by have := HZ.out; omega, hsz⟩ _, hbel⟩
  case rest =>
    obtain ⟨hv3, hbc⟩ := hcut
    obtain ⟨a3, k3, rfl⟩ := hv3.form
    have hT : T23 w.heap.size W2 (.slice a3 n k3) ⟨n, S⟩ wc := by
      have hsz := hbc.size
      refine ⟨fun j hj => ?_, hbc.mono (by omega), by omega, hv3⟩
      rw [hbc.cell (by show w.heap.size + 1 < _; omega), hbc.frozen (by show w.heap.size + 1 < _; omega)]
      match j, hj with
      | 0, _ => exact ⟨by rw [d0]; rfl, z0⟩
      | 1, _ => exact ⟨by rw [d1]; rfl, z1⟩
      | 2, _ => exact ⟨by rw [d2]; rfl, z2⟩
    have mk : ∀ W, T23 w.heap.size W2 (.slice a3 n k3) ⟨n, S⟩ W → (W.cell? ⟨w.heap.size, 2, none⟩ = some (.slice aa na ja) ∧ W.cell? ⟨w.heap.size, 3, none⟩ = some (.slice ad nd jd) ∧ W.cell? ⟨w.heap.size + 1, 0, none⟩ = some (cellOf W (w.heap.size + 1) 0) ∧ W.cell? ⟨w.heap.size + 1, 1, none⟩ = some (cellOf W (w.heap.size + 1) 1) ∧ W.cell? ⟨w.heap.size + 1, 2, none⟩ = some (cellOf W (w.heap.size + 1) 2) ∧ W.frozen? ⟨w.heap.size + 1, 0, none⟩ = false ∧ W.frozen? ⟨w.heap.size + 1, 1, none⟩ = false ∧ W.frozen? ⟨w.heap.size + 1, 2, none⟩ = false ∧ T23 w.heap.size W2 (.slice a3 n k3) ⟨n, S⟩ W) := fun W h =>
      ⟨(h.bel.cell (by show w.heap.size < _; omega)).trans c2, (h.bel.cell (by show w.heap.size < _; omega)).trans c3, (cellOf_there h.res 0 (by omega)).1, (cellOf_there h.res 1 (by omega)).1, (cellOf_there h.res 2 (by omega)).1,
        (cellOf_there h.res 0 (by omega)).2, (cellOf_there h.res 1 (by omega)).2, (cellOf_there h.res 2 (by omega)).2, h⟩
    have tT : ∀ W, (W.cell? ⟨w.heap.size, 2, none⟩ = some (.slice aa na ja) ∧ W.cell? ⟨w.heap.size, 3, none⟩ = some (.slice ad nd jd) ∧ W.cell? ⟨w.heap.size + 1, 0, none⟩ = some (cellOf W (w.heap.size + 1) 0) ∧ W.cell? ⟨w.heap.size + 1, 1, none⟩ = some (cellOf W (w.heap.size + 1) 1) ∧ W.cell? ⟨w.heap.size + 1, 2, none⟩ = some (cellOf W (w.heap.size + 1) 2) ∧ W.frozen? ⟨w.heap.size + 1, 0, none⟩ = false ∧ W.frozen? ⟨w.heap.size + 1, 1, none⟩ = false ∧ W.frozen? ⟨w.heap.size + 1, 2, none⟩ = false ∧ T23 w.heap.size W2 (.slice a3 n k3) ⟨n, S⟩ W) → T23 w.heap.size W2 (.slice a3 n k3) ⟨n, S⟩ W := fun W h => h.2.2.2.2.2.2.2.2
    have HA : Hid (∀ W, (W.cell? ⟨w.heap.size, 2, none⟩ = some (.slice aa na ja) ∧ W.cell? ⟨w.heap.size, 3, none⟩ = some (.slice ad nd jd) ∧ W.cell? ⟨w.heap.size + 1, 0, none⟩ = some (cellOf W (w.heap.size + 1) 0) ∧ W.cell? ⟨w.heap.size + 1, 1, none⟩ = some (cellOf W (w.heap.size + 1) 1) ∧ W.cell? ⟨w.heap.size + 1, 2, none⟩ = some (cellOf W (w.heap.size + 1) 2) ∧ W.frozen? ⟨w.heap.size + 1, 0, none⟩ = false ∧ W.frozen? ⟨w.heap.size + 1, 1, none⟩ = false ∧ W.frozen? ⟨w.heap.size + 1, 2, none⟩ = false ∧ T23 w.heap.size W2 (.slice a3 n k3) ⟨n, S⟩ W) → Grants W 0 0 B B (.slice aa na ja) XA ∧ B ≤ W.heap.size) := show ∀ W, _ from fun W h => ⟨(ha.below hbw hB hB).below (tT _ h).bel (by omega) (by omega), by have := (tT _ h).size; omega⟩
    have HD : Hid (∀ W, (W.cell? ⟨w.heap.size, 2, none⟩ = some (.slice aa na ja) ∧ W.cell? ⟨w.heap.size, 3, none⟩ = some (.slice ad nd jd) ∧ W.cell? ⟨w.heap.size + 1, 0, none⟩ = some (cellOf W (w.heap.size + 1) 0) ∧ W.cell? ⟨w.heap.size + 1, 1, none⟩ = some (cellOf W (w.heap.size + 1) 1) ∧ W.cell? ⟨w.heap.size + 1, 2, none⟩ = some (cellOf W (w.heap.size + 1) 2) ∧ W.frozen? ⟨w.heap.size + 1, 0, none⟩ = false ∧ W.frozen? ⟨w.heap.size + 1, 1, none⟩ = false ∧ W.frozen? ⟨w.heap.size + 1, 2, none⟩ = false ∧ T23 w.heap.size W2 (.slice a3 n k3) ⟨n, S⟩ W) → Grants W 0 0 B B (.slice ad nd jd) XD ∧ B ≤ W.heap.size) := show ∀ W, _ from fun W h => ⟨(hd.below hbw hB hB).below (tT _ h).bel (by omega) (by omega), by have := (tT _ h).size; omega⟩
    have KB : Hid (∀ W W', Below W.heap.size W W' → (W.cell? ⟨w.heap.size, 2, none⟩ = some (.slice aa na ja) ∧ W.cell? ⟨w.heap.size, 3, none⟩ = some (.slice ad nd jd) ∧ W.cell? ⟨w.heap.size + 1, 0, none⟩ = some (cellOf W (w.heap.size + 1) 0) ∧ W.cell? ⟨w.heap.size + 1, 1, none⟩ = some (cellOf W (w.heap.size + 1) 1) ∧ W.cell? ⟨w.heap.size + 1, 2, none⟩ = some (cellOf W (w.heap.size + 1) 2) ∧ W.frozen? ⟨w.heap.size + 1, 0, none⟩ = false ∧ W.frozen? ⟨w.heap.size + 1, 1, none⟩ = false ∧ W.frozen? ⟨w.heap.size + 1, 2, none⟩ = false ∧ T23 w.heap.size W2 (.slice a3 n k3) ⟨n, S⟩ W) → (W'.cell? ⟨w.heap.size, 2, none⟩ = some (.slice aa na ja) ∧ W'.cell? ⟨w.heap.size, 3, none⟩ = some (.slice ad nd jd) ∧ W'.cell? ⟨w.heap.size + 1, 0, none⟩ = some (cellOf W' (w.heap.size + 1) 0) ∧ W'.cell? ⟨w.heap.size + 1, 1, none⟩ = some (cellOf W' (w.heap.size + 1) 1) ∧ W'.cell? ⟨w.heap.size + 1, 2, none⟩ = some (cellOf W' (w.heap.size + 1) 2) ∧ W'.frozen? ⟨w.heap.size + 1, 0, none⟩ = false ∧ W'.frozen? ⟨w.heap.size + 1, 1, none⟩ = false ∧ W'.frozen? ⟨w.heap.size + 1, 2, none⟩ = false ∧ T23 w.heap.size W2 (.slice a3 n k3) ⟨n, S⟩ W')) := show ∀ W W', _ from fun W W' hb h => mk _ (T23.below hb (tT _ h))
    have KS : Hid (∀ W x y z, (W.cell? ⟨w.heap.size, 2, none⟩ = some (.slice aa na ja) ∧ W.cell? ⟨w.heap.size, 3, none⟩ = some (.slice ad nd jd) ∧ W.cell? ⟨w.heap.size + 1, 0, none⟩ = some (cellOf W (w.heap.size + 1) 0) ∧ W.cell? ⟨w.heap.size + 1, 1, none⟩ = some (cellOf W (w.heap.size + 1) 1) ∧ W.cell? ⟨w.heap.size + 1, 2, none⟩ = some (cellOf W (w.heap.size + 1) 2) ∧ W.frozen? ⟨w.heap.size + 1, 0, none⟩ = false ∧ W.frozen? ⟨w.heap.size + 1, 1, none⟩ = false ∧ W.frozen? ⟨w.heap.size + 1, 2, none⟩ = false ∧ T23 w.heap.size W2 (.slice a3 n k3) ⟨n, S⟩ W) → ((((W.setCell ⟨w.heap.size + 1, 0, none⟩ x).setCell ⟨w.heap.size + 1, 1, none⟩ y).setCell ⟨w.heap.size + 1, 2, none⟩ z).cell? ⟨w.heap.size, 2, none⟩ = some (.slice aa na ja) ∧ (((W.setCell ⟨w.heap.size + 1, 0, none⟩ x).setCell ⟨w.heap.size + 1, 1, none⟩ y).setCell ⟨w.heap.size + 1, 2, none⟩ z).cell? ⟨w.heap.size, 3, none⟩ = some (.slice ad nd jd) ∧ (((W.setCell ⟨w.heap.size + 1, 0, none⟩ x).setCell ⟨w.heap.size + 1, 1, none⟩ y).setCell ⟨w.heap.size + 1, 2, none⟩ z).cell? ⟨w.heap.size + 1, 0, none⟩ = some (cellOf (((W.setCell ⟨w.heap.size + 1, 0, none⟩ x).setCell ⟨w.heap.size + 1, 1, none⟩ y).setCell ⟨w.heap.size + 1, 2, none⟩ z) (w.heap.size + 1) 0) ∧ (((W.setCell ⟨w.heap.size + 1, 0, none⟩ x).setCell ⟨w.heap.size + 1, 1, none⟩ y).setCell ⟨w.heap.size + 1, 2, none⟩ z).cell? ⟨w.heap.size + 1, 1, none⟩ = some (cellOf (((W.setCell ⟨w.heap.size + 1, 0, none⟩ x).setCell ⟨w.heap.size + 1, 1, none⟩ y).setCell ⟨w.heap.size + 1, 2, none⟩ z) (w.heap.size + 1) 1) ∧ (((W.setCell ⟨w.heap.size + 1, 0, none⟩ x).setCell ⟨w.heap.size + 1, 1, none⟩ y).setCell ⟨w.heap.size + 1, 2, none⟩ z).cell? ⟨w.heap.size + 1, 2, none⟩ = some (cellOf (((W.setCell ⟨w.heap.size + 1, 0, none⟩ x).setCell ⟨w.heap.size + 1, 1, none⟩ y).setCell ⟨w.heap.size + 1, 2, none⟩ z) (w.heap.size + 1) 2) ∧ (((W.setCell ⟨w.heap.size + 1, 0, none⟩ x).setCell ⟨w.heap.size + 1, 1, none⟩ y).setCell ⟨w.heap.size + 1, 2, none⟩ z).frozen? ⟨w.heap.size + 1, 0, none⟩ = false ∧ (((W.setCell ⟨w.heap.size + 1, 0, none⟩ x).setCell ⟨w.heap.size + 1, 1, none⟩ y).setCell ⟨w.heap.size + 1, 2, none⟩ z).frozen? ⟨w.heap.size + 1, 1, none⟩ = false ∧ (((W.setCell ⟨w.heap.size + 1, 0, none⟩ x).setCell ⟨w.heap.size + 1, 1, none⟩ y).setCell ⟨w.heap.size + 1, 2, none⟩ z).frozen? ⟨w.heap.size + 1, 2, none⟩ = false ∧ T23 w.heap.size W2 (.slice a3 n k3) ⟨n, S⟩ (((W.setCell ⟨w.heap.size + 1, 0, none⟩ x).setCell ⟨w.heap.size + 1, 1, none⟩ y).setCell ⟨w.heap.size + 1, 2, none⟩ z))) := show ∀ W x y z, _ from fun W x y z h => mk _ ((((tT _ h).setCell 0 x).setCell 1 y).setCell 2 z)
    have TT : Hid (∀ W, (W.cell? ⟨w.heap.size, 2, none⟩ = some (.slice aa na ja) ∧ W.cell? ⟨w.heap.size, 3, none⟩ = some (.slice ad nd jd) ∧ W.cell? ⟨w.heap.size + 1, 0, none⟩ = some (cellOf W (w.heap.size + 1) 0) ∧ W.cell? ⟨w.heap.size + 1, 1, none⟩ = some (cellOf W (w.heap.size + 1) 1) ∧ W.cell? ⟨w.heap.size + 1, 2, none⟩ = some (cellOf W (w.heap.size + 1) 2) ∧ W.frozen? ⟨w.heap.size + 1, 0, none⟩ = false ∧ W.frozen? ⟨w.heap.size + 1, 1, none⟩ = false ∧ W.frozen? ⟨w.heap.size + 1, 2, none⟩ = false ∧ T23 w.heap.size W2 (.slice a3 n k3) ⟨n, S⟩ W) → T23 w.heap.size W2 (.slice a3 n k3) ⟨n, S⟩ W) := tT
    have s0 := mk _ hT.drew
    clear mk tT hsz2 hmk h1 c1 c2 c3 d0 d1 d2 z0 z1 z2 hc ha hd
    go_upto_region 8 with fail
    go_region_held3 (fun W => (W.cell? ⟨w.heap.size, 2, none⟩ = some (.slice aa na ja) ∧ W.cell? ⟨w.heap.size, 3, none⟩ = some (.slice ad nd jd) ∧ W.cell? ⟨w.heap.size + 1, 0, none⟩ = some (cellOf W (w.heap.size + 1) 0) ∧ W.cell? ⟨w.heap.size + 1, 1, none⟩ = some (cellOf W (w.heap.size + 1) 1) ∧ W.cell? ⟨w.heap.size + 1, 2, none⟩ = some (cellOf W (w.heap.size + 1) 2) ∧ W.frozen? ⟨w.heap.size + 1, 0, none⟩ = false ∧ W.frozen? ⟨w.heap.size + 1, 1, none⟩ = false ∧ W.frozen? ⟨w.heap.size + 1, 2, none⟩ = false ∧ T23 w.heap.size W2 (.slice a3 n k3) ⟨n, S⟩ W))
      (first
        | exact s0
        | exact KB.out _ _ (by assumption) (by assumption)
        | exact KS.out _ _ _ _ (by assumption))
      (first
        | (go_at_call_of 29 (Value.slice aa na ja); refine (toGrants _ B _ XA (HA.out _ (by assumption)).1 ka (HA.out _ (by assumption)).2).mono ?_; rintro e w1 ⟨v1, rfl, hs1, hb1⟩; have hs2 := hs1.mono (TT.out _ (by assumption)).size (Nat.le_refl 0) (Nat.le_refl _) (Nat.le_refl _); clear hs1; obtain ⟨a1, k1, rfl⟩ := hs2.form)
        | (go_at_call_of 29 (Value.slice ad nd jd); refine (toGrants _ B _ XD (HD.out _ (by assumption)).1 kd (HD.out _ (by assumption)).2).mono ?_; rintro e w1 ⟨v1, rfl, hs1, hb1⟩; have hs2 := hs1.mono (TT.out _ (by assumption)).size (Nat.le_refl 0) (Nat.le_refl _) (Nat.le_refl _); clear hs1; obtain ⟨a1, k1, rfl⟩ := hs2.form))
    all_goals
      have hTm := T23.below (W := wc.drew) (by assumption) hT.drew
      have hT' := T23.below hb1 hTm
      have hszm := hTm.size
      have e0 := (cellOf_there hT'.res 0 (by omega)).1
      have e1 := (cellOf_there hT'.res 1 (by omega)).1
      have e2 := (cellOf_there hT'.res 2 (by omega)).1
      go_wp2
      refine bodyPost_ret (v := .agg #[.slice a3 n k3, .slice _ XA.n _, .slice _ XD.n _]) (by simp [results, Try.results23, go_sem, e0, e1, e2]; exact ⟨⟨rfl, rfl⟩, rfl, rfl⟩) rfl ⟨_, _, _, rfl, end23 hbw hT' ?_ ?_ hB⟩
    all_goals first
      | exact hs2
      | exact (Grants.below (by assumption) hb1 (Nat.le_refl _) (by omega)).mono (Nat.le_refl _) (Nat.le_refl _) (Nat.le_refl _) hb1.size
      | trace_state

end Go.Proofs.Qxb6630161a
