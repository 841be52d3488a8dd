/-
  Seat b6630161a: the walk of zzScribble.
-/
import Derived.Test.Qxb6630161aWalksF
namespace Go.Proofs.Qxb6630161a
open Go.RowKit

/-- v is a slice of cells that may be written, in a block below B. -/
def Soft (w : World) (B : Nat) (v : Value) : Prop :=
  ∃ ao n k, v = .slice ao n k ∧ (0 < n → ∃ b o, ao = some ⟨b, o, none⟩ ∧ b < B ∧ ∀ i, i < n → w.frozen? ⟨b, o + i, none⟩ = false)
theorem Soft.below {w w' : World} {B B' : Nat} {v : Value} (h : Soft w B v) (hb : Below B' w w') (hB : B ≤ B') : Soft w' B v := by
  obtain ⟨ao, n, k, h1, h⟩ := h
  refine ⟨ao, n, k, h1, fun h0 => ?_⟩
  obtain ⟨b, o, h2, h3, h4⟩ := h h0
  exact ⟨b, o, h2, h3, fun i hi => (hb.frozen (by show b < B'; omega)).trans (h4 i hi)⟩
theorem Soft.mono {w : World} {B B' : Nat} {v : Value} (h : Soft w B v) (hB : B ≤ B') : Soft w B' v := by
  obtain ⟨ao, n, k, h1, h⟩ := h
  refine ⟨ao, n, k, h1, fun h0 => ?_⟩
  obtain ⟨b, o, h2, h3, h4⟩ := h h0
  exact ⟨b, o, h2, by omega, h4⟩
theorem Soft.setCell {w : World} {B : Nat} {v : Value} (h : Soft w B v) (p : Addr) (u : Value) : Soft (w.setCell p u) B v := by
  obtain ⟨ao, n, k, h1, h⟩ := h
  refine ⟨ao, n, k, h1, fun h0 => ?_⟩
  obtain ⟨b, o, h2, h3, h4⟩ := h h0
  exact ⟨b, o, h2, h3, fun i hi => by rw [World.frozen?_setCell]; exact h4 i hi⟩
theorem soft_nil (w : World) (B : Nat) : Soft w B (.slice none 0 0) := ⟨none, 0, 0, rfl, fun h => absurd h (Nat.lt_irrefl 0)⟩

/-- The rows that zzScribble writes are there; below A all is as it was; the struct's cells are as they were. -/
structure T16 (w W2 : World) (A : Nat) (rows : List (Nat × Nat × Nat)) (W : World) : Prop where
  rows : ∀ t ∈ rows, W.there t.1 t.2.1 t.2.2
  bel : Below A w W
  size : w.heap.size < W.heap.size
  cell : ∀ j, W.cell? ⟨w.heap.size, j, none⟩ = W2.cell? ⟨w.heap.size, j, none⟩
theorem T16.drew {w W2 : World} {A : Nat} {rows : List (Nat × Nat × Nat)} {W : World} (h : T16 w W2 A rows W) : T16 w W2 A rows W.drew :=
  ⟨fun t ht => by simpa using h.rows t ht, h.bel.drew, h.size, h.cell⟩
theorem T16.below {w W2 : World} {A : Nat} {rows : List (Nat × Nat × Nat)} {W W' : World} (h : T16 w W2 A rows W) (hlt : ∀ t ∈ rows, t.2.2 = 0 ∨ t.1 < w.heap.size) (hA : A ≤ w.heap.size) (hb : Below W.heap.size W W') : T16 w W2 A rows W' := by
  have h1 := h.size
  have h2 := hb.size
  exact ⟨fun t ht => by
    rcases hlt t ht with h0 | h0
    · intro j hj; omega
    · exact there_below (h.rows t ht) hb (by omega), h.bel.trans (hb.mono (by omega)), by omega, fun j => (hb.cell (by show w.heap.size < _; omega)).trans (h.cell j)⟩
theorem T16.setCell {w W2 : World} {A : Nat} {rows : List (Nat × Nat × Nat)} {W : World} (h : T16 w W2 A rows W) {b : Nat} (hA : A ≤ b) (hb : b < w.heap.size) (j : Nat) (u : Value) : T16 w W2 A rows (W.setCell ⟨b, j, none⟩ u) :=
  ⟨fun t ht => there_setCell (h.rows t ht) _ _, h.bel.setCell hA _, by simpa using h.size, fun i => by rw [World.cell?_setCell_other _ _ _ _ (fun e => by injection e; omega)]; exact h.cell i⟩
theorem cellOf_at {w : World} {b o n : Nat} (h : w.there b o n) (j : Nat) (hj : j < n) : w.cell? ⟨b, o + j, none⟩ = some (cellOf w b (o + j)) ∧ w.frozen? ⟨b, o + j, none⟩ = false := by
  obtain ⟨h1, h2⟩ := h j hj
  refine ⟨?_, h2⟩
  obtain ⟨u, hu⟩ := Option.isSome_iff_exists.1 h1
  simp [cellOf, hu]

/-- the row of a slice: its place, or none if it is empty. -/
theorem row_there {w : World} {A : Nat} {v : Value} {n : Nat} {c : Nat → Value} (h : Row w A w.heap.size v n c) (hs : Soft w w.heap.size v) :
    ∃ ao k b o, v = .slice ao n k ∧ w.there b o n ∧ (0 < n → ao = some ⟨b, o, none⟩ ∧ A ≤ b ∧ b < w.heap.size) := by
  obtain ⟨ao, k, rfl, h⟩ := h
  obtain ⟨ao', n', k', e, hs⟩ := hs
  obtain ⟨rfl, rfl, rfl⟩ : ao = ao' ∧ n = n' ∧ k = k' := by simpa using e
  by_cases h0 : 0 < n
  · obtain ⟨b, o, h1, h2, h3⟩ := h h0
    obtain ⟨b', o', h1', _, h3'⟩ := hs h0
    obtain ⟨rfl, rfl⟩ : b = b' ∧ o = o' := by rw [h1] at h1'; simpa using h1'
    exact ⟨ao, k, b, o, rfl, fun j hj => ⟨by rw [h3 j hj]; rfl, h3' j hj⟩, fun _ => ⟨h1, h2.1, h2.2⟩⟩
  · obtain rfl : n = 0 := by omega
    exact ⟨ao, k, 0, 0, rfl, fun j hj => absurd hj (Nat.not_lt_zero j), fun h => absurd h (Nat.lt_irrefl 0)⟩


set_option maxHeartbeats 8000000 in
set_option maxRecDepth 100000 in
theorem scribble (w : World) (A : Nat) (vi va vd : Value) (ni na nd : Nat) (ci ca cd : Nat → Value) (hi : Row w A w.heap.size vi ni ci) (ha : Row w A w.heap.size va na ca) (hd : Row w A w.heap.size vd nd cd)
    (si : Soft w w.heap.size vi) (sa : Soft w w.heap.size va) (sd : Soft w w.heap.size vd) (mi : ni ≤ 1048576) (ma : na ≤ 1048576) (md : nd ≤ 1048576) (hA : A ≤ w.heap.size) :
    Calls Try.prog 16 #[.agg #[vi, va, vd]] w fun e w' => ∃ v, e = .returned v ∧ Below A w w' := by
  obtain ⟨ai, ki, bi, oi, rfl, ti, pi⟩ := row_there hi si
  obtain ⟨aa, ka, ba, oa, rfl, ta, pa⟩ := row_there ha sa
  obtain ⟨ad, kd, bd, od, rfl, td, pd⟩ := row_there hd sd
  obtain ⟨W2, hW2⟩ : ∃ W2, W2 = w.alloc (Obj.cells #[.slice ai ni ki, .slice aa na ka, .slice ad nd kd] 33) := ⟨_, rfl⟩
  have c0 : W2.cell? ⟨w.heap.size, 0, none⟩ = some (.slice ai ni ki) := by rw [hW2]; simp
  have c1 : W2.cell? ⟨w.heap.size, 1, none⟩ = some (.slice aa na ka) := by rw [hW2]; simp
  have c2 : W2.cell? ⟨w.heap.size, 2, none⟩ = some (.slice ad nd kd) := by rw [hW2]; simp
  have HL : Hid (∀ t ∈ [(bi, oi, ni), (ba, oa, na), (bd, od, nd)], t.2.2 = 0 ∨ t.1 < w.heap.size) := show ∀ t ∈ _, _ from fun t ht => by
    simp only [List.mem_cons, List.not_mem_nil, or_false] at ht
    rcases ht with rfl | rfl | rfl
    · rcases Nat.eq_zero_or_pos ni with h | h
      · exact .inl h
      · exact .inr (pi h).2.2
    · rcases Nat.eq_zero_or_pos na with h | h
      · exact .inl h
      · exact .inr (pa h).2.2
    · rcases Nat.eq_zero_or_pos nd with h | h
      · exact .inl h
      · exact .inr (pd h).2.2
  have hT : T16 w W2 A [(bi, oi, ni), (ba, oa, na), (bd, od, nd)] W2 := by
    rw [hW2]
    refine ⟨fun t ht => ?_, (Below.refl _ _).alloc hA _, by simp, fun _ => rfl⟩
    simp only [List.mem_cons, List.not_mem_nil, or_false] at ht
    rcases ht with rfl | rfl | rfl
    · exact World.there_alloc ti _
    · exact World.there_alloc ta _
    · exact World.there_alloc td _
  clear hi ha hd si sa sd ti ta td
  go_enter Try.func16, Try.ntmps16
  go_upto_region 1 with fail
  rw [← hW2]
  clear hW2
  go_wp2
  go_loopg [2] ni (fun g i wr => ∃ k : Nat, i = .int .i64 k ∧ k ≤ ni ∧ g = ni - k ∧ T16 w W2 A [(bi, oi, ni), (ba, oa, na), (bd, od, nd)] wr)
  case atStart => exact ⟨0, rfl, by omega, by omega, hT⟩
  case round =>
    clear hT
    obtain ⟨k, rfl, hk, hg, hT⟩ := hrel
    have e0 := (hT.cell 0).trans c0
    by_cases hlt : k < ni
    · obtain ⟨rfl, hab1, hab2⟩ := pi (by omega)
      have mk : ∀ W, T16 w W2 A [(bi, oi, ni), (ba, oa, na), (bd, od, nd)] W → (W.cell? ⟨w.heap.size, 0, none⟩ = some (.slice (some ⟨bi, oi, none⟩) ni ki) ∧ W.cell? ⟨bi, oi + k, none⟩ = some (cellOf W bi (oi + k)) ∧ W.frozen? ⟨bi, oi + k, none⟩ = false ∧ T16 w W2 A [(bi, oi, ni), (ba, oa, na), (bd, od, nd)] W) := fun W h =>
        ⟨(h.cell 0).trans c0, (cellOf_at (h.rows (bi, oi, ni) (by simp)) k hlt).1, (cellOf_at (h.rows (bi, oi, ni) (by simp)) k hlt).2, h⟩
      have s0 := mk _ hT.drew
      have KB : Hid (∀ W W', Below W.heap.size W W' → (W.cell? ⟨w.heap.size, 0, none⟩ = some (.slice (some ⟨bi, oi, none⟩) ni ki) ∧ W.cell? ⟨bi, oi + k, none⟩ = some (cellOf W bi (oi + k)) ∧ W.frozen? ⟨bi, oi + k, none⟩ = false ∧ T16 w W2 A [(bi, oi, ni), (ba, oa, na), (bd, od, nd)] W) → (W'.cell? ⟨w.heap.size, 0, none⟩ = some (.slice (some ⟨bi, oi, none⟩) ni ki) ∧ W'.cell? ⟨bi, oi + k, none⟩ = some (cellOf W' bi (oi + k)) ∧ W'.frozen? ⟨bi, oi + k, none⟩ = false ∧ T16 w W2 A [(bi, oi, ni), (ba, oa, na), (bd, od, nd)] W')) := show ∀ W W', _ from fun W W' hb h => mk _ (h.2.2.2.below HL.out hA hb)
      have KA : Hid (∀ W ob, (W.cell? ⟨w.heap.size, 0, none⟩ = some (.slice (some ⟨bi, oi, none⟩) ni ki) ∧ W.cell? ⟨bi, oi + k, none⟩ = some (cellOf W bi (oi + k)) ∧ W.frozen? ⟨bi, oi + k, none⟩ = false ∧ T16 w W2 A [(bi, oi, ni), (ba, oa, na), (bd, od, nd)] W) → ((W.alloc ob).cell? ⟨w.heap.size, 0, none⟩ = some (.slice (some ⟨bi, oi, none⟩) ni ki) ∧ (W.alloc ob).cell? ⟨bi, oi + k, none⟩ = some (cellOf (W.alloc ob) bi (oi + k)) ∧ (W.alloc ob).frozen? ⟨bi, oi + k, none⟩ = false ∧ T16 w W2 A [(bi, oi, ni), (ba, oa, na), (bd, od, nd)] (W.alloc ob))) := show ∀ W ob, _ from fun W ob h => mk _ (h.2.2.2.below HL.out hA ((Below.refl _ _).alloc (Nat.le_refl _) _))
      have KS : Hid (∀ W u, (W.cell? ⟨w.heap.size, 0, none⟩ = some (.slice (some ⟨bi, oi, none⟩) ni ki) ∧ W.cell? ⟨bi, oi + k, none⟩ = some (cellOf W bi (oi + k)) ∧ W.frozen? ⟨bi, oi + k, none⟩ = false ∧ T16 w W2 A [(bi, oi, ni), (ba, oa, na), (bd, od, nd)] W) → ((W.setCell ⟨bi, oi + k, none⟩ u).cell? ⟨w.heap.size, 0, none⟩ = some (.slice (some ⟨bi, oi, none⟩) ni ki) ∧ (W.setCell ⟨bi, oi + k, none⟩ u).cell? ⟨bi, oi + k, none⟩ = some (cellOf (W.setCell ⟨bi, oi + k, none⟩ u) bi (oi + k)) ∧ (W.setCell ⟨bi, oi + k, none⟩ u).frozen? ⟨bi, oi + k, none⟩ = false ∧ T16 w W2 A [(bi, oi, ni), (ba, oa, na), (bd, od, nd)] (W.setCell ⟨bi, oi + k, none⟩ u))) := show ∀ W u, _ from fun W u h => mk _ (h.2.2.2.setCell hab1 hab2 (oi + k) u)
      have i1 : (0 : Int) ≤ k := by omega
      have i2 : (k : Int) < ni := by omega
      clear mk
      go_upto_region 4 with fail
      go_region_held3 (fun W => (W.cell? ⟨w.heap.size, 0, none⟩ = some (.slice (some ⟨bi, oi, none⟩) ni ki) ∧ W.cell? ⟨bi, oi + k, none⟩ = some (cellOf W bi (oi + k)) ∧ W.frozen? ⟨bi, oi + k, none⟩ = false ∧ T16 w W2 A [(bi, oi, ni), (ba, oa, na), (bd, od, nd)] W))
        (first
          | exact s0
          | exact KB.out _ _ (by assumption) (by assumption)
          | exact KS.out _ _ (by assumption)
          | exact KA.out _ _ (by assumption))
        (first
          | (go_at_call 11; refine (zzRoleName _ _).mono ?_; rintro e w1 ⟨rfl, hb1⟩))
      all_goals
        rename_i hH
        have hT9 := hH.2.2.2
        clear hH s0 e0
        go_wp2
        go_roundg (ni - (k + 1))
        case measure => omega
        case rel => exact ⟨k + 1, by go_num, by omega, rfl, hT9⟩
    · obtain rfl : ni = k := by omega
      go_wp2
      go_loopg [3] na (fun g i wr => ∃ k : Nat, i = .int .i64 k ∧ k ≤ na ∧ g = na - k ∧ T16 w W2 A [(bi, oi, ni), (ba, oa, na), (bd, od, nd)] wr)
      case atStart => exact ⟨0, rfl, by omega, by omega, hT⟩
      case round =>
        clear hT
        obtain ⟨k, rfl, hk, hg, hT⟩ := hrel
        have e0 := (hT.cell 1).trans c1
        by_cases hlt : k < na
        · obtain ⟨rfl, hab1, hab2⟩ := pa (by omega)
          have mk : ∀ W, T16 w W2 A [(bi, oi, ni), (ba, oa, na), (bd, od, nd)] W → (W.cell? ⟨w.heap.size, 1, none⟩ = some (.slice (some ⟨ba, oa, none⟩) na ka) ∧ W.cell? ⟨ba, oa + k, none⟩ = some (cellOf W ba (oa + k)) ∧ W.frozen? ⟨ba, oa + k, none⟩ = false ∧ T16 w W2 A [(bi, oi, ni), (ba, oa, na), (bd, od, nd)] W) := fun W h =>
            ⟨(h.cell 1).trans c1, (cellOf_at (h.rows (ba, oa, na) (by simp)) k hlt).1, (cellOf_at (h.rows (ba, oa, na) (by simp)) k hlt).2, h⟩
          have s0 := mk _ hT.drew
          have KB : Hid (∀ W W', Below W.heap.size W W' → (W.cell? ⟨w.heap.size, 1, none⟩ = some (.slice (some ⟨ba, oa, none⟩) na ka) ∧ W.cell? ⟨ba, oa + k, none⟩ = some (cellOf W ba (oa + k)) ∧ W.frozen? ⟨ba, oa + k, none⟩ = false ∧ T16 w W2 A [(bi, oi, ni), (ba, oa, na), (bd, od, nd)] W) → (W'.cell? ⟨w.heap.size, 1, none⟩ = some (.slice (some ⟨ba, oa, none⟩) na ka) ∧ W'.cell? ⟨ba, oa + k, none⟩ = some (cellOf W' ba (oa + k)) ∧ W'.frozen? ⟨ba, oa + k, none⟩ = false ∧ T16 w W2 A [(bi, oi, ni), (ba, oa, na), (bd, od, nd)] W')) := show ∀ W W', _ from fun W W' hb h => mk _ (h.2.2.2.below HL.out hA hb)
          have KA : Hid (∀ W ob, (W.cell? ⟨w.heap.size, 1, none⟩ = some (.slice (some ⟨ba, oa, none⟩) na ka) ∧ W.cell? ⟨ba, oa + k, none⟩ = some (cellOf W ba (oa + k)) ∧ W.frozen? ⟨ba, oa + k, none⟩ = false ∧ T16 w W2 A [(bi, oi, ni), (ba, oa, na), (bd, od, nd)] W) → ((W.alloc ob).cell? ⟨w.heap.size, 1, none⟩ = some (.slice (some ⟨ba, oa, none⟩) na ka) ∧ (W.alloc ob).cell? ⟨ba, oa + k, none⟩ = some (cellOf (W.alloc ob) ba (oa + k)) ∧ (W.alloc ob).frozen? ⟨ba, oa + k, none⟩ = false ∧ T16 w W2 A [(bi, oi, ni), (ba, oa, na), (bd, od, nd)] (W.alloc ob))) := show ∀ W ob, _ from fun W ob h => mk _ (h.2.2.2.below HL.out hA ((Below.refl _ _).alloc (Nat.le_refl _) _))
          have KS : Hid (∀ W u, (W.cell? ⟨w.heap.size, 1, none⟩ = some (.slice (some ⟨ba, oa, none⟩) na ka) ∧ W.cell? ⟨ba, oa + k, none⟩ = some (cellOf W ba (oa + k)) ∧ W.frozen? ⟨ba, oa + k, none⟩ = false ∧ T16 w W2 A [(bi, oi, ni), (ba, oa, na), (bd, od, nd)] W) → ((W.setCell ⟨ba, oa + k, none⟩ u).cell? ⟨w.heap.size, 1, none⟩ = some (.slice (some ⟨ba, oa, none⟩) na ka) ∧ (W.setCell ⟨ba, oa + k, none⟩ u).cell? ⟨ba, oa + k, none⟩ = some (cellOf (W.setCell ⟨ba, oa + k, none⟩ u) ba (oa + k)) ∧ (W.setCell ⟨ba, oa + k, none⟩ u).frozen? ⟨ba, oa + k, none⟩ = false ∧ T16 w W2 A [(bi, oi, ni), (ba, oa, na), (bd, od, nd)] (W.setCell ⟨ba, oa + k, none⟩ u))) := show ∀ W u, _ from fun W u h => mk _ (h.2.2.2.setCell hab1 hab2 (oa + k) u)
          have i1 : (0 : Int) ≤ k := by omega
          have i2 : (k : Int) < na := by omega
          clear mk
          go_upto_region 8 with fail
          go_region_held3 (fun W => (W.cell? ⟨w.heap.size, 1, none⟩ = some (.slice (some ⟨ba, oa, none⟩) na ka) ∧ W.cell? ⟨ba, oa + k, none⟩ = some (cellOf W ba (oa + k)) ∧ W.frozen? ⟨ba, oa + k, none⟩ = false ∧ T16 w W2 A [(bi, oi, ni), (ba, oa, na), (bd, od, nd)] W))
            (first
              | exact s0
              | exact KB.out _ _ (by assumption) (by assumption)
              | exact KS.out _ _ (by assumption)
              | exact KA.out _ _ (by assumption))
            (first
              | (go_at_call 28; refine (zzGrant _ _ _ _ _ rfl).mono ?_; rintro e w1 ⟨rfl, hb1⟩))
          all_goals
            rename_i hH
            have hT9 := hH.2.2.2
            clear hH s0 e0
            go_wp2
            go_roundg (na - (k + 1))
            case measure => omega
            case rel => exact ⟨k + 1, by go_num, by omega, rfl, hT9⟩
        · obtain rfl : na = k := by omega
          go_wp2
          go_loopg [4] nd (fun g i wr => ∃ k : Nat, i = .int .i64 k ∧ k ≤ nd ∧ g = nd - k ∧ T16 w W2 A [(bi, oi, ni), (ba, oa, na), (bd, od, nd)] wr)
          case atStart => exact ⟨0, rfl, by omega, by omega, hT⟩
          case round =>
            clear hT
            obtain ⟨k, rfl, hk, hg, hT⟩ := hrel
            have e0 := (hT.cell 2).trans c2
            by_cases hlt : k < nd
            · obtain ⟨rfl, hab1, hab2⟩ := pd (by omega)
              have mk : ∀ W, T16 w W2 A [(bi, oi, ni), (ba, oa, na), (bd, od, nd)] W → (W.cell? ⟨w.heap.size, 2, none⟩ = some (.slice (some ⟨bd, od, none⟩) nd kd) ∧ W.cell? ⟨bd, od + k, none⟩ = some (cellOf W bd (od + k)) ∧ W.frozen? ⟨bd, od + k, none⟩ = false ∧ T16 w W2 A [(bi, oi, ni), (ba, oa, na), (bd, od, nd)] W) := fun W h =>
                ⟨(h.cell 2).trans c2, (cellOf_at (h.rows (bd, od, nd) (by simp)) k hlt).1, (cellOf_at (h.rows (bd, od, nd) (by simp)) k hlt).2, h⟩
              have s0 := mk _ hT.drew
              have KB : Hid (∀ W W', Below W.heap.size W W' → (W.cell? ⟨w.heap.size, 2, none⟩ = some (.slice (some ⟨bd, od, none⟩) nd kd) ∧ W.cell? ⟨bd, od + k, none⟩ = some (cellOf W bd (od + k)) ∧ W.frozen? ⟨bd, od + k, none⟩ = false ∧ T16 w W2 A [(bi, oi, ni), (ba, oa, na), (bd, od, nd)] W) → (W'.cell? ⟨w.heap.size, 2, none⟩ = some (.slice (some ⟨bd, od, none⟩) nd kd) ∧ W'.cell? ⟨bd, od + k, none⟩ = some (cellOf W' bd (od + k)) ∧ W'.frozen? ⟨bd, od + k, none⟩ = false ∧ T16 w W2 A [(bi, oi, ni), (ba, oa, na), (bd, od, nd)] W')) := show ∀ W W', _ from fun W W' hb h => mk _ (h.2.2.2.below HL.out hA hb)
              have KA : Hid (∀ W ob, (W.cell? ⟨w.heap.size, 2, none⟩ = some (.slice (some ⟨bd, od, none⟩) nd kd) ∧ W.cell? ⟨bd, od + k, none⟩ = some (cellOf W bd (od + k)) ∧ W.frozen? ⟨bd, od + k, none⟩ = false ∧ T16 w W2 A [(bi, oi, ni), (ba, oa, na), (bd, od, nd)] W) → ((W.alloc ob).cell? ⟨w.heap.size, 2, none⟩ = some (.slice (some ⟨bd, od, none⟩) nd kd) ∧ (W.alloc ob).cell? ⟨bd, od + k, none⟩ = some (cellOf (W.alloc ob) bd (od + k)) ∧ (W.alloc ob).frozen? ⟨bd, od + k, none⟩ = false ∧ T16 w W2 A [(bi, oi, ni), (ba, oa, na), (bd, od, nd)] (W.alloc ob))) := show ∀ W ob, _ from fun W ob h => mk _ (h.2.2.2.below HL.out hA ((Below.refl _ _).alloc (Nat.le_refl _) _))
              have KS : Hid (∀ W u, (W.cell? ⟨w.heap.size, 2, none⟩ = some (.slice (some ⟨bd, od, none⟩) nd kd) ∧ W.cell? ⟨bd, od + k, none⟩ = some (cellOf W bd (od + k)) ∧ W.frozen? ⟨bd, od + k, none⟩ = false ∧ T16 w W2 A [(bi, oi, ni), (ba, oa, na), (bd, od, nd)] W) → ((W.setCell ⟨bd, od + k, none⟩ u).cell? ⟨w.heap.size, 2, none⟩ = some (.slice (some ⟨bd, od, none⟩) nd kd) ∧ (W.setCell ⟨bd, od + k, none⟩ u).cell? ⟨bd, od + k, none⟩ = some (cellOf (W.setCell ⟨bd, od + k, none⟩ u) bd (od + k)) ∧ (W.setCell ⟨bd, od + k, none⟩ u).frozen? ⟨bd, od + k, none⟩ = false ∧ T16 w W2 A [(bi, oi, ni), (ba, oa, na), (bd, od, nd)] (W.setCell ⟨bd, od + k, none⟩ u))) := show ∀ W u, _ from fun W u h => mk _ (h.2.2.2.setCell hab1 hab2 (od + k) u)
              have i1 : (0 : Int) ≤ k := by omega
              have i2 : (k : Int) < nd := by omega
              clear mk
              go_upto_region 12 with fail
              go_region_held3 (fun W => (W.cell? ⟨w.heap.size, 2, none⟩ = some (.slice (some ⟨bd, od, none⟩) nd kd) ∧ W.cell? ⟨bd, od + k, none⟩ = some (cellOf W bd (od + k)) ∧ W.frozen? ⟨bd, od + k, none⟩ = false ∧ T16 w W2 A [(bi, oi, ni), (ba, oa, na), (bd, od, nd)] W))
                (first
                  | exact s0
                  | exact KB.out _ _ (by assumption) (by assumption)
                  | exact KS.out _ _ (by assumption)
                  | exact KA.out _ _ (by assumption))
                (first
                  | (go_at_call 28; refine (zzGrant _ _ _ _ _ rfl).mono ?_; rintro e w1 ⟨rfl, hb1⟩))
              all_goals
                rename_i hH
                have hT9 := hH.2.2.2
                clear hH s0 e0
                go_wp2
                go_roundg (nd - (k + 1))
                case measure => omega
                case rel => exact ⟨k + 1, by go_num, by omega, rfl, hT9⟩
            · obtain rfl : nd = k := by omega
              go_wp2
              exact bodyPost_end (v := .tuple #[]) (by simp [results, Try.results16, go_sem]) rfl ⟨_, rfl, hT.bel⟩
end Go.Proofs.Qxb6630161a
