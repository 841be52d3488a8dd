/-
  Seat b6630161a: the walk of zzCloneSpecs.
-/
import Derived.Test.Qxb6630161aWalksF
namespace Go.Proofs.Qxb6630161a
open Go.RowKit

/-- The cells of the specs before place k are laid in block g; the rest of its n * 4 cells may be written. -/
def Part (W : World) (g n : Nat) (p : Nat → Sp) (k : Nat) : Prop :=
  (∀ j, j < n * 4 → (W.cell? ⟨g, j, none⟩).isSome = true ∧ W.frozen? ⟨g, j, none⟩ = false) ∧
  ∀ i, i < k → ∃ vi va vd, W.cell? ⟨g, i * 4, none⟩ = some (.string (p i).name) ∧ W.cell? ⟨g, i * 4 + 1, none⟩ = some vi ∧ W.cell? ⟨g, i * 4 + 2, none⟩ = some va ∧ W.cell? ⟨g, i * 4 + 3, none⟩ = some vd ∧
    Fields W (g + 1) (g + 1) W.heap.size W.heap.size vi va vd (p i)

theorem Part.below {W W' : World} {g n k : Nat} {p : Nat → Sp} (h : Part W g n p k) (hb : Below W.heap.size W W') (hg : g < W.heap.size) : Part W' g n p k := by
  refine ⟨fun j hj => ⟨by rw [hb.cell hg]; exact (h.1 j hj).1, by rw [hb.frozen hg]; exact (h.1 j hj).2⟩, fun i hi => ?_⟩
  obtain ⟨vi, va, vd, g0, g1, g2, g3, hf⟩ := h.2 i hi
  exact ⟨vi, va, vd, (hb.cell hg).trans g0, (hb.cell hg).trans g1, (hb.cell hg).trans g2, (hb.cell hg).trans g3, (hf.below hb (Nat.le_refl _) (Nat.le_refl _)).mono (Nat.le_refl _) (Nat.le_refl _) hb.size hb.size⟩

theorem Part.drew {W : World} {g n k : Nat} {p : Nat → Sp} (h : Part W g n p k) (hg : g < W.heap.size) : Part W.drew g n p k := h.below (Below.refl W.heap.size W).drew hg

/-- a store behind place k. -/
theorem Part.setCell {W : World} {g n k : Nat} {p : Nat → Sp} (h : Part W g n p k) (j : Nat) (hj : k * 4 ≤ j) (u : Value) : Part (W.setCell ⟨g, j, none⟩ u) g n p k := by
  refine ⟨fun i hi => ⟨?_, by rw [World.frozen?_setCell]; exact (h.1 i hi).2⟩, fun i hi => ?_⟩
  · obtain ⟨x, hx⟩ := Option.isSome_iff_exists.1 (h.1 i hi).1
    obtain ⟨y, hy⟩ := cell?_setCell_some (p := ⟨g, j, none⟩) (x := u) hx
    rw [hy]; rfl
  · obtain ⟨vi, va, vd, g0, g1, g2, g3, hf⟩ := h.2 i hi
    have other : ∀ m, m < k * 4 → (W.setCell ⟨g, j, none⟩ u).cell? ⟨g, m, none⟩ = W.cell? ⟨g, m, none⟩ := fun m hm => World.cell?_setCell_other _ _ _ _ (fun e => by injection e; omega)
    refine ⟨vi, va, vd, (other _ (by omega)).trans g0, (other _ (by omega)).trans g1, (other _ (by omega)).trans g2, (other _ (by omega)).trans g3, ?_⟩
    have := hf.setCell (p := ⟨g, j, none⟩) (.inl (by show g < g + 1; omega)) (.inl (by show g < g + 1; omega)) u
    simpa using this

/-- the four stores of place k. -/
theorem Part.step {W : World} {g n k : Nat} {p : Nat → Sp} {vi va vd : Value} (h : Part W g n p k) (hk : k < n) (hf : Fields W (g + 1) (g + 1) W.heap.size W.heap.size vi va vd (p k)) :
    Part ((((W.setCell ⟨g, k * 4, none⟩ (.string (p k).name)).setCell ⟨g, k * 4 + 1, none⟩ vi).setCell ⟨g, k * 4 + 2, none⟩ va).setCell ⟨g, k * 4 + 3, none⟩ vd) g n p (k + 1) := by
  have h4 := (((h.setCell (k * 4) (Nat.le_refl _) (.string (p k).name)).setCell (k * 4 + 1) (by omega) vi).setCell (k * 4 + 2) (by omega) va).setCell (k * 4 + 3) (by omega) vd
  refine ⟨h4.1, fun i hi => ?_⟩
  by_cases e : i = k
  · subst e
    have ne : ∀ {a b : Nat}, a ≠ b → (⟨g, a, none⟩ : Addr) ≠ ⟨g, b, none⟩ := fun hab e => by injection e; omega
    have some0 : ∀ (V : World) (j : Nat), (V.cell? ⟨g, j, none⟩).isSome = true → ∀ u, (V.setCell ⟨g, j, none⟩ u).cell? ⟨g, j, none⟩ = some u := fun V j hs u => by
      obtain ⟨x, hx⟩ := Option.isSome_iff_exists.1 hs
      exact World.cell?_setCell_same _ _ _ hx
    have i0 := (h.1 (i * 4) (by omega)).1
    have i1 := ((h.setCell (i * 4) (Nat.le_refl _) (.string (p i).name)).1 (i * 4 + 1) (by omega)).1
    have i2 := (((h.setCell (i * 4) (Nat.le_refl _) (.string (p i).name)).setCell (i * 4 + 1) (by omega) vi).1 (i * 4 + 2) (by omega)).1
    have i3 := ((((h.setCell (i * 4) (Nat.le_refl _) (.string (p i).name)).setCell (i * 4 + 1) (by omega) vi).setCell (i * 4 + 2) (by omega) va).1 (i * 4 + 3) (by omega)).1
    refine ⟨vi, va, vd, ?_, ?_, ?_, ?_, ?_⟩
    · rw [World.cell?_setCell_other _ _ _ _ (ne (by omega)), World.cell?_setCell_other _ _ _ _ (ne (by omega)), World.cell?_setCell_other _ _ _ _ (ne (by omega))]
      exact some0 _ _ i0 _
    · rw [World.cell?_setCell_other _ _ _ _ (ne (by omega)), World.cell?_setCell_other _ _ _ _ (ne (by omega))]
      exact some0 _ _ i1 _
    · rw [World.cell?_setCell_other _ _ _ _ (ne (by omega))]
      exact some0 _ _ i2 _
    · exact some0 _ _ i3 _
    · have := ((((hf.setCell (p := ⟨g, i * 4, none⟩) (.inl (by show g < g + 1; omega)) (.inl (by show g < g + 1; omega)) (.string (p i).name)).setCell (p := ⟨g, i * 4 + 1, none⟩) (.inl (by show g < g + 1; omega)) (.inl (by show g < g + 1; omega)) vi).setCell
        (p := ⟨g, i * 4 + 2, none⟩) (.inl (by show g < g + 1; omega)) (.inl (by show g < g + 1; omega)) va).setCell (p := ⟨g, i * 4 + 3, none⟩) (.inl (by show g < g + 1; omega)) (.inl (by show g < g + 1; omega)) vd)
      simpa using this
  · exact h4.2 i (by omega)

structure T8 (w : World) (n : Nat) (p : Nat → Sp) (k : Nat) (W : World) : Prop where
  part : Part W w.heap.size n p k
  bel : Below w.heap.size w W
  size : w.heap.size < W.heap.size
theorem T8.drew {w W : World} {n k : Nat} {p : Nat → Sp} (h : T8 w n p k W) : T8 w n p k W.drew := ⟨h.part.drew h.size, h.bel.drew, h.size⟩
theorem T8.below {w W W' : World} {n k : Nat} {p : Nat → Sp} (hb : Below W.heap.size W W') (h : T8 w n p k W) : T8 w n p k W' := by
  have h1 := h.size
  have h2 := hb.size
  exact ⟨h.part.below hb h.size, h.bel.trans (hb.mono (by omega)), by omega⟩
theorem T8.setCell {w W : World} {n k : Nat} {p : Nat → Sp} (h : T8 w n p k W) (j : Nat) (hj : k * 4 ≤ j) (u : Value) : T8 w n p k (W.setCell ⟨w.heap.size, j, none⟩ u) :=
  ⟨h.part.setCell j hj u, h.bel.setCell (Nat.le_refl _) _, by simpa using h.size⟩
theorem T8.cell {w W : World} {n k : Nat} {p : Nat → Sp} (h : T8 w n p k W) (j : Nat) (hj : j < n * 4) : W.cell? ⟨w.heap.size, j, none⟩ = some (cellOf W w.heap.size j) := by
  obtain ⟨u, hu⟩ := Option.isSome_iff_exists.1 (h.part.1 j hj).1
  simp [cellOf, hu]

theorem T8.step {w W : World} {n k : Nat} {p : Nat → Sp} {nm : ByteArray} {XI : Str} {XA XD : Grs} {vi va vd : Value} (h : T8 w n p k W) (hk : k < n) (hp : p k = ⟨nm, XI, XA, XD⟩) (hI : Strs W (w.heap.size + 1) W.heap.size vi XI)
    (hA : Grants W (w.heap.size + 1) (w.heap.size + 1) W.heap.size W.heap.size va XA) (hD : Grants W (w.heap.size + 1) (w.heap.size + 1) W.heap.size W.heap.size vd XD) :
    T8 w n p (k + 1) ((((W.setCell ⟨w.heap.size, k * 4, none⟩ (.string nm)).setCell ⟨w.heap.size, k * 4 + 1, none⟩ vi).setCell ⟨w.heap.size, k * 4 + 2, none⟩ va).setCell ⟨w.heap.size, k * 4 + 3, none⟩ vd) := by
  have hf : Fields W (w.heap.size + 1) (w.heap.size + 1) W.heap.size W.heap.size vi va vd (p k) := by rw [hp]; exact ⟨hI, hA, hD⟩
  have hs := h.part.step hk hf
  rw [hp] at hs
  have h4 := (((h.setCell (k * 4) (Nat.le_refl _) (.string nm)).setCell (k * 4 + 1) (by omega) vi).setCell (k * 4 + 2) (by omega) va).setCell (k * 4 + 3) (by omega) vd
  exact ⟨hs, h4.bel, h4.size⟩

set_option maxHeartbeats 8000000 in
set_option maxRecDepth 100000 in
theorem cloneSpecs (w : World) (B : Nat) (v : Value) (X : Sps) (hx : Specs w 0 B v X) (hok : X.ok) (hB : B ≤ w.heap.size) :
    Calls Try.prog 8 #[v] w fun e w' => ∃ v', e = .returned v' ∧ Specs w' w.heap.size w'.heap.size v' X ∧ Below w.heap.size w w' := by
  obtain ⟨ao, kk, rfl, hc⟩ := hx
  obtain ⟨n, p⟩ := X
  obtain ⟨hn, hps⟩ := hok
  simp only at hc hn hps ⊢
  have hmk := run_make_rowN 22 45 _ 4 88 Try.underlying22 Try.info45 .i64 .i64 n (by omega) (by omega)
  have hq := @Lib.run_eql_slice_nil Try.prog
  cases ao with
  | none =>
    go_enter Try.func8, Try.ntmps8
    go_wp2
    go_ret
    have hn : n = 0 := by
      rcases Nat.eq_zero_or_pos n with h | h
      · exact h
      · obtain ⟨b, o, h, _⟩ := hc h; cases h
    subst hn
    exact ⟨_, rfl, ⟨_, _, rfl, fun h => absurd h (Nat.lt_irrefl 0)⟩, Below.refl _ _⟩
  | some a =>
    have hm0 : T8 w n p 0 (w.alloc (.cells (madeCells (Value.agg #[.string ⟨#[]⟩, .slice none 0 0, .slice none 0 0, .slice none 0 0]).cells (n * 4)) 45)) :=
      ⟨⟨(made_newN w _ (n * 4) 45 (fun _ => undef)).1, fun i hi => absurd hi (Nat.not_lt_zero i)⟩, (Below.refl _ _).alloc (Nat.le_refl _) _, by simp⟩
    go_enter Try.func8, Try.ntmps8
    go_wp2
    go_loopg [4] n (fun g i wr => ∃ k : Nat, i = .int .i64 k ∧ k ≤ n ∧ g = n - k ∧ T8 w n p k wr)
    case atStart => exact ⟨0, rfl, by omega, by omega, hm0⟩
    case round =>
      obtain ⟨k, rfl, hk, hg, hT⟩ := hrel
      by_cases hlt : k < n
      · obtain ⟨b, o, ho, hb, hc'⟩ := hc (by omega)
        obtain rfl : a = ⟨b, o, none⟩ := by simpa using ho
        obtain ⟨vi, va, vd, g0, g1, g2, g3, hf⟩ := hc' k hlt
        simp only at g0 hf
        have hok1 := hps k hlt
        obtain ⟨pk, hpk⟩ : ∃ pk, pk = p k := ⟨_, rfl⟩
        rw [← hpk] at g0 hf hok1
        have HPK : Hid (pk = p k) := hpk
        clear hc' hc hpk ho hps hm0 hmk hq
        obtain ⟨nm, XI, XA, XD⟩ := pk
        obtain ⟨hi, ha, hd⟩ := hf
        obtain ⟨ki, ka, kd⟩ := hok1
        simp only at g0 hi ha hd ki ka kd
        obtain ⟨ai, ji, rfl⟩ := hi.form
        obtain ⟨aa, ja, rfl⟩ := ha.form
        obtain ⟨ad, jd, rfl⟩ := hd.form
        generalize XI.n = ni at hi g1
        generalize XA.n = na at ha g2
        generalize XD.n = nd at hd g3
        have mk : ∀ W, T8 w n p k W → (W.cell? ⟨b, o + k * 4, none⟩ = some (.string nm) ∧ W.cell? ⟨b, o + k * 4 + 1, none⟩ = some (.slice ai ni ji) ∧ W.cell? ⟨b, o + k * 4 + 2, none⟩ = some (.slice aa na ja) ∧ W.cell? ⟨b, o + k * 4 + 3, none⟩ = some (.slice ad nd jd) ∧ W.cell? ⟨w.heap.size, k * 4, none⟩ = some (cellOf W (w.heap.size) (k * 4)) ∧ W.cell? ⟨w.heap.size, k * 4 + 1, none⟩ = some (cellOf W (w.heap.size) (k * 4 + 1)) ∧ W.cell? ⟨w.heap.size, k * 4 + 2, none⟩ = some (cellOf W (w.heap.size) (k * 4 + 2)) ∧ W.cell? ⟨w.heap.size, k * 4 + 3, none⟩ = some (cellOf W (w.heap.size) (k * 4 + 3)) ∧ W.frozen? ⟨w.heap.size, k * 4, none⟩ = false ∧ W.frozen? ⟨w.heap.size, k * 4 + 1, none⟩ = false ∧ W.frozen? ⟨w.heap.size, k * 4 + 2, none⟩ = false ∧ W.frozen? ⟨w.heap.size, k * 4 + 3, none⟩ = false ∧ T8 w n p k W) := fun W h =>
          have hbb : b < w.heap.size := by omega
          ⟨(h.bel.cell hbb).trans g0, (h.bel.cell hbb).trans g1, (h.bel.cell hbb).trans g2, (h.bel.cell hbb).trans g3, h.cell _ (by omega), h.cell _ (by omega), h.cell _ (by omega), h.cell _ (by omega),
            (h.part.1 _ (by omega)).2, (h.part.1 _ (by omega)).2, (h.part.1 _ (by omega)).2, (h.part.1 _ (by omega)).2, h⟩
        have tT : ∀ W, (W.cell? ⟨b, o + k * 4, none⟩ = some (.string nm) ∧ W.cell? ⟨b, o + k * 4 + 1, none⟩ = some (.slice ai ni ji) ∧ W.cell? ⟨b, o + k * 4 + 2, none⟩ = some (.slice aa na ja) ∧ W.cell? ⟨b, o + k * 4 + 3, none⟩ = some (.slice ad nd jd) ∧ W.cell? ⟨w.heap.size, k * 4, none⟩ = some (cellOf W (w.heap.size) (k * 4)) ∧ W.cell? ⟨w.heap.size, k * 4 + 1, none⟩ = some (cellOf W (w.heap.size) (k * 4 + 1)) ∧ W.cell? ⟨w.heap.size, k * 4 + 2, none⟩ = some (cellOf W (w.heap.size) (k * 4 + 2)) ∧ W.cell? ⟨w.heap.size, k * 4 + 3, none⟩ = some (cellOf W (w.heap.size) (k * 4 + 3)) ∧ W.frozen? ⟨w.heap.size, k * 4, none⟩ = false ∧ W.frozen? ⟨w.heap.size, k * 4 + 1, none⟩ = false ∧ W.frozen? ⟨w.heap.size, k * 4 + 2, none⟩ = false ∧ W.frozen? ⟨w.heap.size, k * 4 + 3, none⟩ = false ∧ T8 w n p k W) → T8 w n p k W := fun W h => h.2.2.2.2.2.2.2.2.2.2.2.2
        have HI : Hid (∀ W, (W.cell? ⟨b, o + k * 4, none⟩ = some (.string nm) ∧ W.cell? ⟨b, o + k * 4 + 1, none⟩ = some (.slice ai ni ji) ∧ W.cell? ⟨b, o + k * 4 + 2, none⟩ = some (.slice aa na ja) ∧ W.cell? ⟨b, o + k * 4 + 3, none⟩ = some (.slice ad nd jd) ∧ W.cell? ⟨w.heap.size, k * 4, none⟩ = some (cellOf W (w.heap.size) (k * 4)) ∧ W.cell? ⟨w.heap.size, k * 4 + 1, none⟩ = some (cellOf W (w.heap.size) (k * 4 + 1)) ∧ W.cell? ⟨w.heap.size, k * 4 + 2, none⟩ = some (cellOf W (w.heap.size) (k * 4 + 2)) ∧ W.cell? ⟨w.heap.size, k * 4 + 3, none⟩ = some (cellOf W (w.heap.size) (k * 4 + 3)) ∧ W.frozen? ⟨w.heap.size, k * 4, none⟩ = false ∧ W.frozen? ⟨w.heap.size, k * 4 + 1, none⟩ = false ∧ W.frozen? ⟨w.heap.size, k * 4 + 2, none⟩ = false ∧ W.frozen? ⟨w.heap.size, k * 4 + 3, none⟩ = false ∧ T8 w n p k W) → Strs W 0 B (.slice ai ni ji) XI ∧ B ≤ W.heap.size) := show ∀ W, _ from fun W h => ⟨hi.below (tT _ h).bel hB, by have := (tT _ h).size; omega⟩
        have HA : Hid (∀ W, (W.cell? ⟨b, o + k * 4, none⟩ = some (.string nm) ∧ W.cell? ⟨b, o + k * 4 + 1, none⟩ = some (.slice ai ni ji) ∧ W.cell? ⟨b, o + k * 4 + 2, none⟩ = some (.slice aa na ja) ∧ W.cell? ⟨b, o + k * 4 + 3, none⟩ = some (.slice ad nd jd) ∧ W.cell? ⟨w.heap.size, k * 4, none⟩ = some (cellOf W (w.heap.size) (k * 4)) ∧ W.cell? ⟨w.heap.size, k * 4 + 1, none⟩ = some (cellOf W (w.heap.size) (k * 4 + 1)) ∧ W.cell? ⟨w.heap.size, k * 4 + 2, none⟩ = some (cellOf W (w.heap.size) (k * 4 + 2)) ∧ W.cell? ⟨w.heap.size, k * 4 + 3, none⟩ = some (cellOf W (w.heap.size) (k * 4 + 3)) ∧ W.frozen? ⟨w.heap.size, k * 4, none⟩ = false ∧ W.frozen? ⟨w.heap.size, k * 4 + 1, none⟩ = false ∧ W.frozen? ⟨w.heap.size, k * 4 + 2, none⟩ = false ∧ W.frozen? ⟨w.heap.size, k * 4 + 3, none⟩ = false ∧ T8 w n p k W) → Grants W 0 0 B B (.slice aa na ja) XA ∧ B ≤ W.heap.size) := show ∀ W, _ from fun W h => ⟨ha.below (tT _ h).bel hB hB, by have := (tT _ h).size; omega⟩
        have HD : Hid (∀ W, (W.cell? ⟨b, o + k * 4, none⟩ = some (.string nm) ∧ W.cell? ⟨b, o + k * 4 + 1, none⟩ = some (.slice ai ni ji) ∧ W.cell? ⟨b, o + k * 4 + 2, none⟩ = some (.slice aa na ja) ∧ W.cell? ⟨b, o + k * 4 + 3, none⟩ = some (.slice ad nd jd) ∧ W.cell? ⟨w.heap.size, k * 4, none⟩ = some (cellOf W (w.heap.size) (k * 4)) ∧ W.cell? ⟨w.heap.size, k * 4 + 1, none⟩ = some (cellOf W (w.heap.size) (k * 4 + 1)) ∧ W.cell? ⟨w.heap.size, k * 4 + 2, none⟩ = some (cellOf W (w.heap.size) (k * 4 + 2)) ∧ W.cell? ⟨w.heap.size, k * 4 + 3, none⟩ = some (cellOf W (w.heap.size) (k * 4 + 3)) ∧ W.frozen? ⟨w.heap.size, k * 4, none⟩ = false ∧ W.frozen? ⟨w.heap.size, k * 4 + 1, none⟩ = false ∧ W.frozen? ⟨w.heap.size, k * 4 + 2, none⟩ = false ∧ W.frozen? ⟨w.heap.size, k * 4 + 3, none⟩ = false ∧ T8 w n p k W) → Grants W 0 0 B B (.slice ad nd jd) XD ∧ B ≤ W.heap.size) := show ∀ W, _ from fun W h => ⟨hd.below (tT _ h).bel hB hB, by have := (tT _ h).size; omega⟩
        have KB : Hid (∀ W W', Below W.heap.size W W' → (W.cell? ⟨b, o + k * 4, none⟩ = some (.string nm) ∧ W.cell? ⟨b, o + k * 4 + 1, none⟩ = some (.slice ai ni ji) ∧ W.cell? ⟨b, o + k * 4 + 2, none⟩ = some (.slice aa na ja) ∧ W.cell? ⟨b, o + k * 4 + 3, none⟩ = some (.slice ad nd jd) ∧ W.cell? ⟨w.heap.size, k * 4, none⟩ = some (cellOf W (w.heap.size) (k * 4)) ∧ W.cell? ⟨w.heap.size, k * 4 + 1, none⟩ = some (cellOf W (w.heap.size) (k * 4 + 1)) ∧ W.cell? ⟨w.heap.size, k * 4 + 2, none⟩ = some (cellOf W (w.heap.size) (k * 4 + 2)) ∧ W.cell? ⟨w.heap.size, k * 4 + 3, none⟩ = some (cellOf W (w.heap.size) (k * 4 + 3)) ∧ W.frozen? ⟨w.heap.size, k * 4, none⟩ = false ∧ W.frozen? ⟨w.heap.size, k * 4 + 1, none⟩ = false ∧ W.frozen? ⟨w.heap.size, k * 4 + 2, none⟩ = false ∧ W.frozen? ⟨w.heap.size, k * 4 + 3, none⟩ = false ∧ T8 w n p k W) → (W'.cell? ⟨b, o + k * 4, none⟩ = some (.string nm) ∧ W'.cell? ⟨b, o + k * 4 + 1, none⟩ = some (.slice ai ni ji) ∧ W'.cell? ⟨b, o + k * 4 + 2, none⟩ = some (.slice aa na ja) ∧ W'.cell? ⟨b, o + k * 4 + 3, none⟩ = some (.slice ad nd jd) ∧ W'.cell? ⟨w.heap.size, k * 4, none⟩ = some (cellOf W' (w.heap.size) (k * 4)) ∧ W'.cell? ⟨w.heap.size, k * 4 + 1, none⟩ = some (cellOf W' (w.heap.size) (k * 4 + 1)) ∧ W'.cell? ⟨w.heap.size, k * 4 + 2, none⟩ = some (cellOf W' (w.heap.size) (k * 4 + 2)) ∧ W'.cell? ⟨w.heap.size, k * 4 + 3, none⟩ = some (cellOf W' (w.heap.size) (k * 4 + 3)) ∧ W'.frozen? ⟨w.heap.size, k * 4, none⟩ = false ∧ W'.frozen? ⟨w.heap.size, k * 4 + 1, none⟩ = false ∧ W'.frozen? ⟨w.heap.size, k * 4 + 2, none⟩ = false ∧ W'.frozen? ⟨w.heap.size, k * 4 + 3, none⟩ = false ∧ T8 w n p k W')) := show ∀ W W', _ from fun W W' hb h => mk _ (T8.below hb (tT _ h))
        have KS : Hid (∀ W x y z u, (W.cell? ⟨b, o + k * 4, none⟩ = some (.string nm) ∧ W.cell? ⟨b, o + k * 4 + 1, none⟩ = some (.slice ai ni ji) ∧ W.cell? ⟨b, o + k * 4 + 2, none⟩ = some (.slice aa na ja) ∧ W.cell? ⟨b, o + k * 4 + 3, none⟩ = some (.slice ad nd jd) ∧ W.cell? ⟨w.heap.size, k * 4, none⟩ = some (cellOf W (w.heap.size) (k * 4)) ∧ W.cell? ⟨w.heap.size, k * 4 + 1, none⟩ = some (cellOf W (w.heap.size) (k * 4 + 1)) ∧ W.cell? ⟨w.heap.size, k * 4 + 2, none⟩ = some (cellOf W (w.heap.size) (k * 4 + 2)) ∧ W.cell? ⟨w.heap.size, k * 4 + 3, none⟩ = some (cellOf W (w.heap.size) (k * 4 + 3)) ∧ W.frozen? ⟨w.heap.size, k * 4, none⟩ = false ∧ W.frozen? ⟨w.heap.size, k * 4 + 1, none⟩ = false ∧ W.frozen? ⟨w.heap.size, k * 4 + 2, none⟩ = false ∧ W.frozen? ⟨w.heap.size, k * 4 + 3, none⟩ = false ∧ T8 w n p k W) → (((((W.setCell ⟨w.heap.size, k * 4, none⟩ x).setCell ⟨w.heap.size, k * 4 + 1, none⟩ y).setCell ⟨w.heap.size, k * 4 + 2, none⟩ z).setCell ⟨w.heap.size, k * 4 + 3, none⟩ u).cell? ⟨b, o + k * 4, none⟩ = some (.string nm) ∧ ((((W.setCell ⟨w.heap.size, k * 4, none⟩ x).setCell ⟨w.heap.size, k * 4 + 1, none⟩ y).setCell ⟨w.heap.size, k * 4 + 2, none⟩ z).setCell ⟨w.heap.size, k * 4 + 3, none⟩ u).cell? ⟨b, o + k * 4 + 1, none⟩ = some (.slice ai ni ji) ∧ ((((W.setCell ⟨w.heap.size, k * 4, none⟩ x).setCell ⟨w.heap.size, k * 4 + 1, none⟩ y).setCell ⟨w.heap.size, k * 4 + 2, none⟩ z).setCell ⟨w.heap.size, k * 4 + 3, none⟩ u).cell? ⟨b, o + k * 4 + 2, none⟩ = some (.slice aa na ja) ∧ ((((W.setCell ⟨w.heap.size, k * 4, none⟩ x).setCell ⟨w.heap.size, k * 4 + 1, none⟩ y).setCell ⟨w.heap.size, k * 4 + 2, none⟩ z).setCell ⟨w.heap.size, k * 4 + 3, none⟩ u).cell? ⟨b, o + k * 4 + 3, none⟩ = some (.slice ad nd jd) ∧ ((((W.setCell ⟨w.heap.size, k * 4, none⟩ x).setCell ⟨w.heap.size, k * 4 + 1, none⟩ y).setCell ⟨w.heap.size, k * 4 + 2, none⟩ z).setCell ⟨w.heap.size, k * 4 + 3, none⟩ u).cell? ⟨w.heap.size, k * 4, none⟩ = some (cellOf ((((W.setCell ⟨w.heap.size, k * 4, none⟩ x).setCell ⟨w.heap.size, k * 4 + 1, none⟩ y).setCell ⟨w.heap.size, k * 4 + 2, none⟩ z).setCell ⟨w.heap.size, k * 4 + 3, none⟩ u) (w.heap.size) (k * 4)) ∧ ((((W.setCell ⟨w.heap.size, k * 4, none⟩ x).setCell ⟨w.heap.size, k * 4 + 1, none⟩ y).setCell ⟨w.heap.size, k * 4 + 2, none⟩ z).setCell ⟨w.heap.size, k * 4 + 3, none⟩ u).cell? ⟨w.heap.size, k * 4 + 1, none⟩ = some (cellOf ((((W.setCell ⟨w.heap.size, k * 4, none⟩ x).setCell ⟨w.heap.size, k * 4 + 1, none⟩ y).setCell ⟨w.heap.size, k * 4 + 2, none⟩ z).setCell ⟨w.heap.size, k * 4 + 3, none⟩ u) (w.heap.size) (k * 4 + 1)) ∧ ((((W.setCell ⟨w.heap.size, k * 4, none⟩ x).setCell ⟨w.heap.size, k * 4 + 1, none⟩ y).setCell ⟨w.heap.size, k * 4 + 2, none⟩ z).setCell ⟨w.heap.size, k * 4 + 3, none⟩ u).cell? ⟨w.heap.size, k * 4 + 2, none⟩ = some (cellOf ((((W.setCell ⟨w.heap.size, k * 4, none⟩ x).setCell ⟨w.heap.size, k * 4 + 1, none⟩ y).setCell ⟨w.heap.size, k * 4 + 2, none⟩ z).setCell ⟨w.heap.size, k * 4 + 3, none⟩ u) (w.heap.size) (k * 4 + 2)) ∧ ((((W.setCell ⟨w.heap.size, k * 4, none⟩ x).setCell ⟨w.heap.size, k * 4 + 1, none⟩ y).setCell ⟨w.heap.size, k * 4 + 2, none⟩ z).setCell ⟨w.heap.size, k * 4 + 3, none⟩ u).cell? ⟨w.heap.size, k * 4 + 3, none⟩ = some (cellOf ((((W.setCell ⟨w.heap.size, k * 4, none⟩ x).setCell ⟨w.heap.size, k * 4 + 1, none⟩ y).setCell ⟨w.heap.size, k * 4 + 2, none⟩ z).setCell ⟨w.heap.size, k * 4 + 3, none⟩ u) (w.heap.size) (k * 4 + 3)) ∧ ((((W.setCell ⟨w.heap.size, k * 4, none⟩ x).setCell ⟨w.heap.size, k * 4 + 1, none⟩ y).setCell ⟨w.heap.size, k * 4 + 2, none⟩ z).setCell ⟨w.heap.size, k * 4 + 3, none⟩ u).frozen? ⟨w.heap.size, k * 4, none⟩ = false ∧ ((((W.setCell ⟨w.heap.size, k * 4, none⟩ x).setCell ⟨w.heap.size, k * 4 + 1, none⟩ y).setCell ⟨w.heap.size, k * 4 + 2, none⟩ z).setCell ⟨w.heap.size, k * 4 + 3, none⟩ u).frozen? ⟨w.heap.size, k * 4 + 1, none⟩ = false ∧ ((((W.setCell ⟨w.heap.size, k * 4, none⟩ x).setCell ⟨w.heap.size, k * 4 + 1, none⟩ y).setCell ⟨w.heap.size, k * 4 + 2, none⟩ z).setCell ⟨w.heap.size, k * 4 + 3, none⟩ u).frozen? ⟨w.heap.size, k * 4 + 2, none⟩ = false ∧ ((((W.setCell ⟨w.heap.size, k * 4, none⟩ x).setCell ⟨w.heap.size, k * 4 + 1, none⟩ y).setCell ⟨w.heap.size, k * 4 + 2, none⟩ z).setCell ⟨w.heap.size, k * 4 + 3, none⟩ u).frozen? ⟨w.heap.size, k * 4 + 3, none⟩ = false ∧ T8 w n p k ((((W.setCell ⟨w.heap.size, k * 4, none⟩ x).setCell ⟨w.heap.size, k * 4 + 1, none⟩ y).setCell ⟨w.heap.size, k * 4 + 2, none⟩ z).setCell ⟨w.heap.size, k * 4 + 3, none⟩ u))) := show ∀ W x y z u, _ from fun W x y z u h => mk _ (((((tT _ h).setCell _ (Nat.le_refl _) x).setCell _ (by omega) y).setCell _ (by omega) z).setCell _ (by omega) u)
        have TT : Hid (∀ W, (W.cell? ⟨b, o + k * 4, none⟩ = some (.string nm) ∧ W.cell? ⟨b, o + k * 4 + 1, none⟩ = some (.slice ai ni ji) ∧ W.cell? ⟨b, o + k * 4 + 2, none⟩ = some (.slice aa na ja) ∧ W.cell? ⟨b, o + k * 4 + 3, none⟩ = some (.slice ad nd jd) ∧ W.cell? ⟨w.heap.size, k * 4, none⟩ = some (cellOf W (w.heap.size) (k * 4)) ∧ W.cell? ⟨w.heap.size, k * 4 + 1, none⟩ = some (cellOf W (w.heap.size) (k * 4 + 1)) ∧ W.cell? ⟨w.heap.size, k * 4 + 2, none⟩ = some (cellOf W (w.heap.size) (k * 4 + 2)) ∧ W.cell? ⟨w.heap.size, k * 4 + 3, none⟩ = some (cellOf W (w.heap.size) (k * 4 + 3)) ∧ W.frozen? ⟨w.heap.size, k * 4, none⟩ = false ∧ W.frozen? ⟨w.heap.size, k * 4 + 1, none⟩ = false ∧ W.frozen? ⟨w.heap.size, k * 4 + 2, none⟩ = false ∧ W.frozen? ⟨w.heap.size, k * 4 + 3, none⟩ = false ∧ T8 w n p k W) → T8 w n p k W) := tT
        have s0 := mk _ hT.drew
        have i1 : (0 : Int) ≤ k := by omega
        have i2 : (k : Int) < n := by omega
        clear mk tT g0 g1 g2 g3 hi ha hd
        go_upto_region 7 with fail
        go_region_held3 (fun W => (W.cell? ⟨b, o + k * 4, none⟩ = some (.string nm) ∧ W.cell? ⟨b, o + k * 4 + 1, none⟩ = some (.slice ai ni ji) ∧ W.cell? ⟨b, o + k * 4 + 2, none⟩ = some (.slice aa na ja) ∧ W.cell? ⟨b, o + k * 4 + 3, none⟩ = some (.slice ad nd jd) ∧ W.cell? ⟨w.heap.size, k * 4, none⟩ = some (cellOf W (w.heap.size) (k * 4)) ∧ W.cell? ⟨w.heap.size, k * 4 + 1, none⟩ = some (cellOf W (w.heap.size) (k * 4 + 1)) ∧ W.cell? ⟨w.heap.size, k * 4 + 2, none⟩ = some (cellOf W (w.heap.size) (k * 4 + 2)) ∧ W.cell? ⟨w.heap.size, k * 4 + 3, none⟩ = some (cellOf W (w.heap.size) (k * 4 + 3)) ∧ W.frozen? ⟨w.heap.size, k * 4, none⟩ = false ∧ W.frozen? ⟨w.heap.size, k * 4 + 1, none⟩ = false ∧ W.frozen? ⟨w.heap.size, k * 4 + 2, none⟩ = false ∧ W.frozen? ⟨w.heap.size, k * 4 + 3, none⟩ = false ∧ T8 w n p k W))
          (first
            | exact s0
            | exact KB.out _ _ (by assumption) (by assumption)
            | exact KS.out _ _ _ _ _ (by assumption))
          (first
            | (go_at_call 20; refine (cloneStrings _ B _ XI (HI.out _ (by assumption)).1 ki (HI.out _ (by assumption)).2).mono ?_; rintro e w1 ⟨v1, rfl, hI, hb1⟩; have hTw := T8.below hb1 (TT.out _ (by assumption)); (try replace hA := (Grants.below hA hb1 (Nat.le_refl _) (Nat.le_refl _)).mono (Nat.le_refl _) (Nat.le_refl _) hb1.size hb1.size); (try replace hD := (Grants.below hD hb1 (Nat.le_refl _) (Nat.le_refl _)).mono (Nat.le_refl _) (Nat.le_refl _) hb1.size hb1.size); replace hI := hI.mono (TT.out _ (by assumption)).size (Nat.le_refl _); obtain ⟨a1, k1, rfl⟩ := hI.form)
            | (go_at_call_of 21 (Value.slice aa na ja); refine (cloneGrants _ B _ XA (HA.out _ (by assumption)).1 ka (HA.out _ (by assumption)).2).mono ?_; rintro e w1 ⟨v1, rfl, hA, hb1⟩; have hTw := T8.below hb1 (TT.out _ (by assumption)); (try replace hI := (Strs.below hI hb1 (Nat.le_refl _)).mono (Nat.le_refl _) hb1.size); (try replace hD := (Grants.below hD hb1 (Nat.le_refl _) (Nat.le_refl _)).mono (Nat.le_refl _) (Nat.le_refl _) hb1.size hb1.size); replace hA := hA.mono (TT.out _ (by assumption)).size (TT.out _ (by assumption)).size (Nat.le_refl _) (Nat.le_refl _); obtain ⟨a2, k2, rfl⟩ := hA.form)
            | (go_at_call_of 21 (Value.slice ad nd jd); refine (cloneGrants _ B _ XD (HD.out _ (by assumption)).1 kd (HD.out _ (by assumption)).2).mono ?_; rintro e w1 ⟨v1, rfl, hD, hb1⟩; have hTw := T8.below hb1 (TT.out _ (by assumption)); (try replace hI := (Strs.below hI hb1 (Nat.le_refl _)).mono (Nat.le_refl _) hb1.size); (try replace hA := (Grants.below hA hb1 (Nat.le_refl _) (Nat.le_refl _)).mono (Nat.le_refl _) (Nat.le_refl _) hb1.size hb1.size); replace hD := hD.mono (TT.out _ (by assumption)).size (TT.out _ (by assumption)).size (Nat.le_refl _) (Nat.le_refl _); obtain ⟨a3, k3, rfl⟩ := hD.form))
        all_goals
          go_wp2
          go_roundg (n - (k + 1))
          case measure => omega
          case rel => exact ⟨k + 1, by go_num, by omega, rfl, hTw.step hlt HPK.out.symm hI hA hD⟩
      · obtain rfl : k = n := by omega
        go_wp2
        go_ret
        refine ⟨_, rfl, ⟨_, _, rfl, fun _ => ⟨w.heap.size, 0, rfl, ⟨Nat.le_refl _, hT.size⟩, fun i hi => ?_⟩⟩, hT.bel⟩
        obtain ⟨vi, va, vd, g0, g1, g2, g3, hf⟩ := hT.part.2 i hi
        refine ⟨vi, va, vd, ?_, ?_, ?_, ?_, hf.mono (by omega) (by omega) (Nat.le_refl _) (Nat.le_refl _)⟩ <;> simpa using (by assumption)
end Go.Proofs.Qxb6630161a
