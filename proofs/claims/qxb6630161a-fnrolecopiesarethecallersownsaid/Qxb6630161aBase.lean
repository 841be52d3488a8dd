/-
  Seat b6630161a: the data of the law as plain functions, and what it is for a slice of a world to hold them.
-/
import Derived.Test.Qxb6630161aRows
import Derived.WalkKit
import Derived.WalkSpells
import Derived.BigQuiet
import Derived.Deep.QuietTactic
import Derived.Deep.LoopGhost
import Derived.Deep.DeepCutAuto
import Derived.Deep.CutBlock
import Derived.Deep.RegionHeld3
import Derived.Deep.MidRow
import Derived.Deep.OwnRows
import Derived.Laws.CopyOwn
namespace Go.Proofs.Qxb6630161a
open Go.RowKit

structure Str where
  n : Nat
  s : Nat → ByteArray
structure Grs where
  n : Nat
  g : Nat → Str
structure Sp where
  name : ByteArray
  inh : Str
  allow : Grs
  deny : Grs
structure Sps where
  n : Nat
  p : Nat → Sp

def Str.ok (X : Str) : Prop := X.n ≤ 1048576
def Grs.ok (X : Grs) : Prop := X.n ≤ 1048576 ∧ ∀ i, i < X.n → (X.g i).ok
def Sp.ok (X : Sp) : Prop := X.inh.ok ∧ X.allow.ok ∧ X.deny.ok
def Sps.ok (X : Sps) : Prop := X.n ≤ 1048576 ∧ ∀ i, i < X.n → (X.p i).ok

/-- v is a slice of n cells that hold c, in a block from A on, below B. -/
def Row (w : World) (A B : Nat) (v : Value) (n : Nat) (c : Nat → Value) : Prop :=
  ∃ ao k, v = .slice ao n k ∧ (0 < n → ∃ b o, ao = some ⟨b, o, none⟩ ∧ (A ≤ b ∧ b < B) ∧ ∀ i, i < n → w.cell? ⟨b, o + i, none⟩ = some (c i))

theorem Row.below {w w' : World} {A B B' : Nat} {v : Value} {n : Nat} {c : Nat → Value} (h : Row w A B v n c) (hb : Below B' w w') (hB : B ≤ B') : Row w' A B v n c := by
  obtain ⟨ao, k, h1, h⟩ := h
  refine ⟨ao, k, h1, fun h0 => ?_⟩
  obtain ⟨b, o, h2, h3, h4⟩ := h h0
  exact ⟨b, o, h2, h3, fun i hi => (hb.cell (by show b < B'; omega)).trans (h4 i hi)⟩

theorem Row.mono {w : World} {A A' B B' : Nat} {v : Value} {n : Nat} {c : Nat → Value} (h : Row w A B v n c) (hA : A' ≤ A) (hB : B ≤ B') : Row w A' B' v n c := by
  obtain ⟨ao, k, h1, h⟩ := h
  refine ⟨ao, k, h1, fun h0 => ?_⟩
  obtain ⟨b, o, h2, h3, h4⟩ := h h0
  exact ⟨b, o, h2, by omega, h4⟩

theorem Row.setCell {w : World} {A B : Nat} {v : Value} {n : Nat} {c : Nat → Value} (h : Row w A B v n c) {p : Addr} (hp : p.block < A ∨ B ≤ p.block) (u : Value) : Row (w.setCell p u) A B v n c := by
  obtain ⟨ao, k, h1, h⟩ := h
  refine ⟨ao, k, h1, fun h0 => ?_⟩
  obtain ⟨b, o, h2, h3, h4⟩ := h h0
  refine ⟨b, o, h2, h3, fun i hi => ?_⟩
  rw [World.cell?_setCell_other _ _ _ _ (fun e => by rw [e] at hp; simp only at hp; omega)]
  exact h4 i hi

theorem row_empty (w : World) (A B : Nat) (ao : Option Addr) (k : Nat) (c : Nat → Value) : Row w A B (.slice ao 0 k) 0 c := ⟨ao, k, rfl, fun h => absurd h (Nat.lt_irrefl 0)⟩

def Strs (w : World) (A B : Nat) (v : Value) (X : Str) : Prop := Row w A B v X.n (fun i => .string (X.s i))
theorem Strs.below {w w' : World} {A B B' : Nat} {v : Value} {X : Str} (h : Strs w A B v X) (hb : Below B' w w') (hB : B ≤ B') : Strs w' A B v X := Row.below h hb hB
theorem Strs.mono {w : World} {A A' B B' : Nat} {v : Value} {X : Str} (h : Strs w A B v X) (hA : A' ≤ A) (hB : B ≤ B') : Strs w A' B' v X := Row.mono h hA hB
theorem Strs.setCell {w : World} {A B : Nat} {v : Value} {X : Str} (h : Strs w A B v X) {p : Addr} (hp : p.block < A ∨ B ≤ p.block) (u : Value) : Strs (w.setCell p u) A B v X := Row.setCell h hp u
theorem Strs.form {w : World} {A B : Nat} {v : Value} {X : Str} (h : Strs w A B v X) : ∃ ao k, v = .slice ao X.n k := let ⟨ao, k, h, _⟩ := h; ⟨ao, k, h⟩

/-- v is a slice of slices of strings: the row in blocks from A on, below B, its elements' rows from I on, below J. -/
def Grants (w : World) (A I J B : Nat) (v : Value) (X : Grs) : Prop := ∃ c, Row w A B v X.n c ∧ ∀ i, i < X.n → Strs w I J (c i) (X.g i)
theorem Grants.below {w w' : World} {A I J B B' : Nat} {v : Value} {X : Grs} (h : Grants w A I J B v X) (hb : Below B' w w') (hB : B ≤ B') (hJ : J ≤ B') : Grants w' A I J B v X := by
  obtain ⟨c, h1, h2⟩ := h
  exact ⟨c, h1.below hb hB, fun i hi => (h2 i hi).below hb hJ⟩
theorem Grants.mono {w : World} {A A' I I' J J' B B' : Nat} {v : Value} {X : Grs} (h : Grants w A I J B v X) (hA : A' ≤ A) (hI : I' ≤ I) (hJ : J ≤ J') (hB : B ≤ B') : Grants w A' I' J' B' v X := by
  obtain ⟨c, h1, h2⟩ := h
  exact ⟨c, h1.mono hA hB, fun i hi => (h2 i hi).mono hI hJ⟩
theorem Grants.setCell {w : World} {A I J B : Nat} {v : Value} {X : Grs} (h : Grants w A I J B v X) {p : Addr} (hA : p.block < A ∨ B ≤ p.block) (hI : p.block < I ∨ J ≤ p.block) (u : Value) : Grants (w.setCell p u) A I J B v X := by
  obtain ⟨c, h1, h2⟩ := h
  exact ⟨c, h1.setCell hA u, fun i hi => (h2 i hi).setCell hI u⟩
theorem Grants.form {w : World} {A I J B : Nat} {v : Value} {X : Grs} (h : Grants w A I J B v X) : ∃ ao k, v = .slice ao X.n k := let ⟨_, ⟨ao, k, h, _⟩, _⟩ := h; ⟨ao, k, h⟩

/-- Three values that hold what a spec says beside its name. -/
structure Fields (w : World) (A I J B : Nat) (vi va vd : Value) (X : Sp) : Prop where
  inh : Strs w A B vi X.inh
  allow : Grants w A I J B va X.allow
  deny : Grants w A I J B vd X.deny
theorem Fields.below {w w' : World} {A I J B B' : Nat} {vi va vd : Value} {X : Sp} (h : Fields w A I J B vi va vd X) (hb : Below B' w w') (hB : B ≤ B') (hJ : J ≤ B') : Fields w' A I J B vi va vd X :=
  ⟨h.inh.below hb hB, h.allow.below hb hB hJ, h.deny.below hb hB hJ⟩
theorem Fields.mono {w : World} {A A' I I' J J' B B' : Nat} {vi va vd : Value} {X : Sp} (h : Fields w A I J B vi va vd X) (hA : A' ≤ A) (hI : I' ≤ I) (hJ : J ≤ J') (hB : B ≤ B') : Fields w A' I' J' B' vi va vd X :=
  ⟨h.inh.mono hA hB, h.allow.mono hA hI hJ hB, h.deny.mono hA hI hJ hB⟩
theorem Fields.setCell {w : World} {A I J B : Nat} {vi va vd : Value} {X : Sp} (h : Fields w A I J B vi va vd X) {p : Addr} (hA : p.block < A ∨ B ≤ p.block) (hI : p.block < I ∨ J ≤ p.block) (u : Value) : Fields (w.setCell p u) A I J B vi va vd X :=
  ⟨h.inh.setCell hA u, h.allow.setCell hA hI u, h.deny.setCell hA hI u⟩

/-- The cells of the specs, in block b from o on. -/
def SpecCells (w : World) (A B b o : Nat) (X : Sps) : Prop := ∀ i, i < X.n → ∃ vi va vd, w.cell? ⟨b, o + i * 4, none⟩ = some (.string (X.p i).name) ∧ w.cell? ⟨b, o + i * 4 + 1, none⟩ = some vi ∧
    w.cell? ⟨b, o + i * 4 + 2, none⟩ = some va ∧ w.cell? ⟨b, o + i * 4 + 3, none⟩ = some vd ∧ Fields w A A B B vi va vd (X.p i)
theorem SpecCells.below {w w' : World} {A B B' b o : Nat} {X : Sps} (h4 : SpecCells w A B b o X) (hb : Below B' w w') (hB : B ≤ B') (h3 : b < B') : SpecCells w' A B b o X := fun i hi => by
  obtain ⟨vi, va, vd, g0, g1, g2, g3, hf⟩ := h4 i hi
  exact ⟨vi, va, vd, (hb.cell h3).trans g0, (hb.cell h3).trans g1, (hb.cell h3).trans g2, (hb.cell h3).trans g3, hf.below hb hB hB⟩

/-- v is a slice of specs. -/
def Specs (w : World) (A B : Nat) (v : Value) (X : Sps) : Prop :=
  ∃ ao k, v = .slice ao X.n k ∧ (0 < X.n → ∃ b o, ao = some ⟨b, o, none⟩ ∧ (A ≤ b ∧ b < B) ∧ SpecCells w A B b o X)
theorem Specs.below {w w' : World} {A B B' : Nat} {v : Value} {X : Sps} (h : Specs w A B v X) (hb : Below B' w w') (hB : B ≤ B') : Specs w' A B v X := by
  obtain ⟨ao, k, h1, h⟩ := h
  refine ⟨ao, k, h1, fun h0 => ?_⟩
  obtain ⟨b, o, h2, h3, h4⟩ := h h0
  exact ⟨b, o, h2, h3, h4.below hb hB (by omega)⟩
theorem Specs.mono {w : World} {A A' B B' : Nat} {v : Value} {X : Sps} (h : Specs w A B v X) (hA : A' ≤ A) (hB : B ≤ B') : Specs w A' B' v X := by
  obtain ⟨ao, k, h1, h⟩ := h
  refine ⟨ao, k, h1, fun h0 => ?_⟩
  obtain ⟨b, o, h2, h3, h4⟩ := h h0
  refine ⟨b, o, h2, by omega, fun i hi => ?_⟩
  obtain ⟨vi, va, vd, g0, g1, g2, g3, hf⟩ := h4 i hi
  exact ⟨vi, va, vd, g0, g1, g2, g3, hf.mono hA hA hB hB⟩

/-- Block g has m cells that may be written; the first k hold c. -/
def Made (w : World) (g m : Nat) (c : Nat → Value) (k : Nat) : Prop :=
  (∀ j, j < m → (w.cell? ⟨g, j, none⟩).isSome = true ∧ w.frozen? ⟨g, j, none⟩ = false) ∧ ∀ j, j < k → w.cell? ⟨g, j, none⟩ = some (c j)

theorem Made.setCell {w : World} {g m k : Nat} {c : Nat → Value} (h : Made w g m c k) (hk : k < m) : Made (w.setCell ⟨g, k, none⟩ (c k)) g m c (k + 1) := by
  obtain ⟨h1, h2⟩ := h
  have same : (w.setCell ⟨g, k, none⟩ (c k)).cell? ⟨g, k, none⟩ = some (c k) := by
    obtain ⟨u, hu⟩ := Option.isSome_iff_exists.1 (h1 k hk).1
    exact World.cell?_setCell_same _ _ _ hu
  have other : ∀ j, j ≠ k → (w.setCell ⟨g, k, none⟩ (c k)).cell? ⟨g, j, none⟩ = w.cell? ⟨g, j, none⟩ := fun j hj => World.cell?_setCell_other _ _ _ _ (fun e => by injection e; omega)
  refine ⟨fun j hj => ⟨?_, by rw [World.frozen?_setCell]; exact (h1 j hj).2⟩, fun j hj => ?_⟩
  · by_cases e : j = k
    · subst e; rw [same]; rfl
    · rw [other j e]; exact (h1 j hj).1
  · by_cases e : j = k
    · subst e; exact same
    · rw [other j e]; exact h2 j (by omega)

theorem Made.below {w w' : World} {B g m k : Nat} {c : Nat → Value} (h : Made w g m c k) (hb : Below B w w') (hg : g < B) : Made w' g m c k :=
  ⟨fun j hj => ⟨by rw [hb.cell hg]; exact (h.1 j hj).1, by rw [hb.frozen hg]; exact (h.1 j hj).2⟩, fun j hj => (hb.cell hg).trans (h.2 j hj)⟩

theorem Made.row {w : World} {A B g m : Nat} {c : Nat → Value} (h : Made w g m c m) (hg : A ≤ g ∧ g < B) (k : Nat) : Row w A B (.slice (some ⟨g, 0, none⟩) m k) m c :=
  ⟨_, k, rfl, fun _ => ⟨g, 0, rfl, hg, fun i hi => by simpa using h.2 i hi⟩⟩

theorem Made.mono {w : World} {g m k : Nat} {c c' : Nat → Value} (h : Made w g m c k) (e : ∀ j, j < k → c j = c' j) : Made w g m c' k := ⟨h.1, fun j hj => by rw [h.2 j hj, e j hj]⟩

/-- one more cell, of whatever value. -/
theorem Made.step {w : World} {g m k : Nat} {c : Nat → Value} (h : Made w g m c k) (hk : k < m) (u : Value) : Made (w.setCell ⟨g, k, none⟩ u) g m (fun j => if j = k then u else c j) (k + 1) := by
  have h' : Made w g m (fun j => if j = k then u else c j) k := h.mono (fun j hj => by simp [Nat.ne_of_lt hj])
  have := h'.setCell hk
  simpa using this

theorem made_new (w : World) (z : Value) (m : Nat) (e : TypeId) (c : Nat → Value) : Made (w.alloc (.cells (madeCells #[z] m) e)) w.heap.size m c 0 := by
  refine ⟨fun j hj => ⟨?_, ?_⟩, fun j hj => by omega⟩
  · simp [madeCells, hj]
  · simp

theorem Try.info9 : (Try.prog.info? 9).map (fun i => (i.zero, i.size, i.bytes)) = some (some (.string ⟨#[]⟩), 1, 16) := by kernel_rfl
theorem Try.info42 : (Try.prog.info? 42).map (fun i => (i.zero, i.size, i.bytes)) = some (some (.slice none 0 0), 1, 24) := by kernel_rfl
theorem Try.info37 : (Try.prog.info? 37).map (fun i => (i.zero, i.size, i.bytes)) = some (some (.agg #[.string ⟨#[]⟩]), 1, 16) := by kernel_rfl
theorem Try.info67 : (Try.prog.info? 67).map (fun i => (i.zero, i.size, i.bytes)) = some (some (.agg #[.slice none 0 0]), 1, 24) := by kernel_rfl
theorem Try.info45 : (Try.prog.info? 45).map (fun i => (i.zero, i.size, i.bytes)) = some (some (.agg #[.string ⟨#[]⟩, .slice none 0 0, .slice none 0 0, .slice none 0 0]), 4, 88) := by kernel_rfl

theorem run_make_rowN (t e : TypeId) (z : Value) (size bytes : Nat) (ht : Try.prog.underlying t = some (.slice e)) (hinfo : (Try.prog.info? e).map (fun i => (i.zero, i.size, i.bytes)) = some (some z, size, bytes))
    (kl kc : IntKind) (n : Nat) (hbytes : bytes * n ≤ 281474976710656) (h63 : n ≤ 9223372036854775807) (w : World) :
    (Instr.makeSlice t (.int kl (n : Int)) (.int kc (n : Int))).run Try.prog w = .ok (.slice (some ⟨w.heap.size, 0, none⟩) n n) (w.alloc (.cells (madeCells z.cells (n * size)) e)) := by
  obtain ⟨i, hi, hzz⟩ := Option.map_eq_some_iff.1 hinfo
  simp only [Prod.mk.injEq] at hzz
  obtain ⟨hz, hs, hb⟩ := hzz
  have hb' : (i.bytes : Int) * (n : Int) ≤ 281474976710656 := by
    have h : ((i.bytes * n : Nat) : Int) ≤ 281474976710656 := by rw [hb]; omega
    rwa [Int.natCast_mul] at h
  have hr := run_make (P := Try.prog) w t e i z ht hi hz kl kc n n (by omega) (Int.le_refl _) hb' (by omega)
  simp only [Int.toNat_natCast, hs] at hr
  exact hr

theorem made_newN (w : World) (zs : Array Value) (m : Nat) (e : TypeId) (c : Nat → Value) : Made (w.alloc (.cells (madeCells zs m) e)) w.heap.size m c 0 := by
  refine ⟨fun j hj => ⟨?_, ?_⟩, fun j hj => by omega⟩
  · simp [madeCells, hj]
  · simp

end Go.Proofs.Qxb6630161a
