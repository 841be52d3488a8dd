/-
  Seat b6630161a: the arguments opened as plain data.
-/
import Derived.Test.Qxb6630161aBase
import Derived.Deep.Slices
import Derived.Deep.Strs
import Derived.Lib.SmallJoins
namespace Go.Proofs.Qxb6630161a
open Go.RowKit Go.Deep Go.ChangeShapes Go.WideShapes

section
variable {H : Type} {enc : TypeId × Value → H} {W : World} {held : Bool}

theorem strInhabited : Nonempty (Inhabited Str) := ⟨⟨⟨0, fun _ => default⟩⟩⟩
theorem spInhabited : Nonempty (Inhabited Sp) := ⟨⟨⟨default, ⟨0, fun _ => default⟩, ⟨0, fun _ => ⟨0, fun _ => default⟩⟩, ⟨0, fun _ => ⟨0, fun _ => default⟩⟩⟩⟩⟩

theorem spot_none {a : Addr} {v : Value} (h : W.cell? (a.add 0) = some v) : ∃ b o, a = ⟨b, o, none⟩ ∧ b < W.heap.size := by
  obtain ⟨b, o, s⟩ := a
  have hs : s = none := by simpa [Addr.add] using World.cell?_spot h
  subst hs
  refine ⟨b, o, rfl, ?_⟩
  rw [Addr.add_mid] at h
  exact World.block_lt_of_cell? _ _ h

theorem cells42 : Try.prog.cellsOf 42 = 1 := by kernel_rfl
theorem cells43 : Try.prog.cellsOf 43 = 1 := by kernel_rfl
theorem cells45 : Try.prog.cellsOf 45 = 4 := by kernel_rfl
theorem cells9' : Try.prog.cellsOf 9 = 1 := by kernel_rfl

theorem openStrs {fuel : Nat} {v : Value} {x : DataW H × List MemPlace} (h : DataW.trod enc Try.prog W 0 (fun _ => true) held fuel 42 [v] = some x) : ∃ X : Str, Strs W 0 W.heap.size v X := by
  rcases open_strs Try.underlying42 Try.underlying9 cells9' h with ⟨hc, _⟩ | ⟨a, len, cap, m, Sx, hc, _, hl, _, hm, _, hx⟩
  · obtain rfl : v = .slice none 0 0 := by simpa using hc
    exact ⟨⟨0, fun _ => default⟩, row_empty _ _ _ _ _ _⟩
  · obtain rfl : v = .slice (some a) len cap := by simpa using hc
    simp at hm
    subst hm
    refine ⟨⟨len, Sx⟩, _, _, rfl, fun h0 => ?_⟩
    obtain ⟨b, o, rfl, hb⟩ := spot_none (hx 0 (by show 0 < m; have : 0 < len := h0; omega)).1
    refine ⟨b, o, rfl, ⟨Nat.zero_le _, hb⟩, fun i hi => ?_⟩
    have := (hx i (by have : i < len := hi; omega)).1
    rwa [Addr.add_mid] at this

theorem openGrants {fuel : Nat} {v : Value} {x : DataW H × List MemPlace} (h : DataW.trod enc Try.prog W 0 (fun _ => true) held fuel 43 [v] = some x) : ∃ X : Grs, Grants W 0 0 W.heap.size W.heap.size v X := by
  obtain ⟨_⟩ := strInhabited
  rcases open_slice1 Try.underlying43 cells42 h with ⟨hc, _⟩ | ⟨a, len, cap, m, n, V, D, Pl, hc, _, hl, _, hm, _, hx⟩
  · obtain rfl : v = .slice none 0 0 := by simpa using hc
    exact ⟨⟨0, fun _ => default⟩, fun _ => undef, row_empty _ _ _ _ _ _, fun i hi => absurd hi (Nat.not_lt_zero i)⟩
  · obtain rfl : v = .slice (some a) len cap := by simpa using hc
    simp at hm
    subst hm
    obtain ⟨G, hG⟩ := choose_lt (n := m) (p := fun i X => Strs W 0 W.heap.size (V i) X) (fun i hi => openStrs (hx i hi).2)
    refine ⟨⟨len, G⟩, V, ⟨_, _, rfl, fun h0 => ?_⟩, fun i hi => hG i (by have : i < len := hi; omega)⟩
    obtain ⟨b, o, rfl, hb⟩ := spot_none (hx 0 (by have : 0 < len := h0; omega)).1
    refine ⟨b, o, rfl, ⟨Nat.zero_le _, hb⟩, fun i hi => ?_⟩
    have := (hx i (by have : i < len := hi; omega)).1
    rwa [Addr.add_mid] at this

theorem openSpec {fuel : Nat} {cs : List Value} {x : DataW H × List MemPlace} (h : DataW.trod enc Try.prog W 0 (fun _ => true) held fuel 45 cs = some x) :
    ∃ (X : Sp) (vi va vd : Value), cs = [.string X.name, vi, va, vd] ∧ X.name.size ≤ maxLen ∧ Fields W 0 0 W.heap.size W.heap.size vi va vd X := by
  obtain ⟨y0, y1, y2, y3, n, _, hl, h0, h1, h2, h3⟩ := Go.Joins.trod_struct4 Try.underlying45 h
  rw [cells45] at hl
  match cs, hl with
  | [c0, c1, c2, c3], _ =>
    simp only [cells42, cells43, cells9', List.drop_zero, List.take_succ_cons, List.take_zero, List.drop_succ_cons] at h0 h1 h2 h3
    obtain ⟨s, hs, _, hsz⟩ := DataW.trod_string Try.underlying9 h0
    obtain rfl : c0 = .string s := by simpa using hs
    obtain ⟨XI, hI⟩ := openStrs h1
    obtain ⟨XA, hA⟩ := openGrants h2
    obtain ⟨XD, hD⟩ := openGrants h3
    exact ⟨⟨s, XI, XA, XD⟩, c1, c2, c3, rfl, hsz, hI, hA, hD⟩

theorem openSpecs {fuel : Nat} {v : Value} {x : DataW H × List MemPlace} (h : DataW.trod enc Try.prog W 0 (fun _ => true) held fuel 22 [v] = some x) :
    ∃ X : Sps, Specs W 0 W.heap.size v X ∧ ∀ i, i < X.n → (X.p i).name.size ≤ maxLen := by
  obtain ⟨_⟩ := spInhabited
  rcases open_slice Try.underlying22 h with ⟨hc, _⟩ | ⟨a, len, cap, m, n, D, Pl, hc, _, hl, _, hm, _, hx⟩
  · obtain rfl : v = .slice none 0 0 := by simpa using hc
    exact ⟨⟨0, fun _ => default⟩, ⟨_, _, rfl, fun h => absurd h (Nat.lt_irrefl 0)⟩, fun i hi => absurd hi (Nat.not_lt_zero i)⟩
  · obtain rfl : v = .slice (some a) len cap := by simpa using hc
    simp at hm
    subst hm
    rw [cells45] at hx
    obtain ⟨G, hG⟩ := choose_lt (n := m) (p := fun i (X : Sp) => X.name.size ≤ maxLen ∧ ∃ vi va vd, W.cell? ((a.add (i * 4)).add 0) = some (.string X.name) ∧ W.cell? ((a.add (i * 4)).add 1) = some vi ∧ W.cell? ((a.add (i * 4)).add 2) = some va ∧
        W.cell? ((a.add (i * 4)).add 3) = some vd ∧ Fields W 0 0 W.heap.size W.heap.size vi va vd X) (fun i hi => by
      obtain ⟨cs, h1, h2⟩ := hx i hi
      obtain ⟨X, vi, va, vd, rfl, hsz, hf⟩ := openSpec h2
      obtain ⟨_, _, hc⟩ := World.cells?_some h1
      exact ⟨X, hsz, vi, va, vd, hc 0 (by omega), hc 1 (by omega), hc 2 (by omega), hc 3 (by omega), hf⟩)
    refine ⟨⟨len, G⟩, ⟨_, _, rfl, fun h0 => ?_⟩, fun i hi => (hG i (by have : i < len := hi; omega)).1⟩
    obtain ⟨_, vi, va, vd, g0, _⟩ := hG 0 (by have : 0 < len := h0; omega)
    rw [Nat.zero_mul, Go.Deep.add_add] at g0
    obtain ⟨b, o, rfl, hb⟩ := spot_none g0
    refine ⟨b, o, rfl, ⟨Nat.zero_le _, hb⟩, fun i hi => ?_⟩
    obtain ⟨_, vi, va, vd, g0, g1, g2, g3, hf⟩ := hG i (by have : i < len := hi; omega)
    rw [Addr.add_mid, Addr.add_mid] at g0 g1 g2 g3
    exact ⟨vi, va, vd, g0, g1, g2, g3, hf⟩
end
end Go.Proofs.Qxb6630161a
