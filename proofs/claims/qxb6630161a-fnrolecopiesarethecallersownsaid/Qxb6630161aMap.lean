/-
  Seat b6630161a: the map of the policy, as plain data.
-/
import Derived.Test.Qxb6630161aWalksG
import Derived.Maps.Own
import Derived.Maps.OwnSet
import Derived.Maps.Views
import Derived.DeepKeys4
import Derived.MapViews
namespace Go.Proofs.Qxb6630161a
open Go.RowKit Go.ChangeShapes Go.WideShapes Go.WideMaps Go.Maps

theorem Try.laidOut : laidOutB Try.prog = true := by kernel_rfl
theorem row37 : (37 : TypeId) < Try.prog.types.size := of_decide_eq_true (by kernel_rfl)
theorem wide37 : (match Try.prog.underlying 37 with | some (.array _ _) | some (.struct _) => true | _ => false) = true := by kernel_rfl
theorem law37 : KeyLaw Try.prog 37 := deep_law_laid Try.laidOut (m := 2) (by omega) row37 (by kernel_rfl) wide37
theorem K37 : Keyed Try.prog 37 := Keyed.of_law law37
theorem cells37 : Try.prog.cellsOf 37 = 1 := by kernel_rfl
theorem cells9 : Try.prog.cellsOf 9 = 1 := by kernel_rfl
theorem keyType37 : Try.prog.keyType 37 = true := by kernel_rfl

/-- The key of a name. -/
def kl (s : ByteArray) : Lit := .string (keyBytes [.string s.data.toList])

theorem key37 (s : ByteArray) (hs : s.size ≤ maxLen) : keyOf Try.prog 37 (.agg #[.string s]) = some (kl s) := by
  have hf : (Value.agg #[.string s]).formed Try.prog 37 = true := by simp [Value.formed, Try.underlying37, cells37]
  have hl : ∀ d, Try.prog.keyLits (d + 2) 37 [.string s] = some [.string s.data.toList] := fun d => by
    simp [Program.keyLits, Try.underlying37, Try.underlying9, cells37, cells9, hs]
  have hd : ∃ d, Try.prog.types.size + 1 = d + 2 := ⟨Try.prog.types.size - 1, by have h37 : 37 < Array.size Try.prog.types := row37; omega⟩
  obtain ⟨d, hd⟩ := hd
  simp [keyOf, Try.underlying37, keyType37, hf, hl, kl, Value.cells]

theorem kl_ne {s t : ByteArray} (hs : s.size ≤ maxLen) (ht : t.size ≤ maxLen) (h : s ≠ t) : kl s ≠ kl t := fun e => by
  have := law37.inj (key37 s hs) (by rw [e]; exact key37 t ht)
  simp at this
  exact h this

/-- What an element of the map is read as: the block that it points to. -/
def R : Value → Option (DataW Unit × List MemPlace)
  | .pointer none => some (.nil, [])
  | .pointer (some ⟨g, 0, none⟩) => some (.lit (.int .i64 g), [])
  | _ => none

theorem R_ptr {v : Value} {g : Nat} {ps : List MemPlace} (h : R v = some (.lit (.int .i64 (g : Int)), ps)) : v = .pointer (some ⟨g, 0, none⟩) := by
  unfold R at h
  split at h
  · simp at h
  · rename_i g'
    simp only [Option.some.injEq, Prod.mk.injEq, DataW.lit.injEq, Lit.int.injEq, true_and] at h
    obtain rfl : g' = g := by have := h.1; omega
    rfl
  · simp at h

/-- What the map says of each name: the last of the first k specs that bears it. -/
def Look (D : DataW Unit) (p : Nat → Sp) (k : Nat) (Gs : Nat → Nat) : Prop := ∀ q : ByteArray, q.size ≤ maxLen →
  (Maps.has D (kl q) = false ∧ ∀ i, i < k → (p i).name ≠ q) ∨
  ∃ j, j < k ∧ (p j).name = q ∧ (∀ i, j < i → i < k → (p i).name ≠ q) ∧ Maps.has D (kl q) = true ∧ ∀ z, D.atKey (kl q) z = .lit (.int .i64 (Gs j : Int))

theorem Look.put {D : DataW Unit} {p : Nat → Sp} {k : Nat} {Gs : Nat → Nat} (h : Look D p k Gs) (hD : IsMap D) (hn : (p k).name.size ≤ maxLen) (g : Nat) :
    Look (D.put (kl (p k).name) (.lit (.int .i64 (g : Int)))) p (k + 1) (fun i => if i = k then g else Gs i) := by
  intro q hq
  by_cases e : (p k).name = q
  · subst e
    refine .inr ⟨k, by omega, rfl, fun i h1 h2 => by omega, has_put_same hD (K37.key (key37 _ hn)) _, fun z => ?_⟩
    rw [atKey_put_same hD (K37.key (key37 _ hn))]
    simp
  · have hne : kl q ≠ kl (p k).name := kl_ne hq hn (fun h => e h.symm)
    rcases h q hq with ⟨h1, h2⟩ | ⟨j, hj, h1, h2, h3, h4⟩
    · refine .inl ⟨by rw [has_put_other hne]; exact h1, fun i hi => ?_⟩
      by_cases ei : i = k
      · subst ei; exact e
      · exact h2 i (by omega)
    · refine .inr ⟨j, by omega, h1, fun i hi1 hi2 => ?_, by rw [has_put_other hne]; exact h3, fun z => ?_⟩
      · by_cases ei : i = k
        · subst ei; exact e
        · exact h2 i hi1 (by omega)
      · rw [atKey_put_other hne, h4 z]
        have : j ≠ k := by omega
        simp [this]

theorem owns_below {w w' : World} {B b n : Nat} {D : DataW Unit} (h : w.ownsMap Try.prog 37 R b n D) (hb : Below B w w') (hlt : b < B) : w'.ownsMap Try.prog 37 R b n D := by
  obtain ⟨es, clock, h1, F, h2, h3⟩ := h
  exact ⟨es, clock, (hb.block b hlt).trans h1, F, h2, h3⟩

theorem Row.grown {w w' : World} {A B m : Nat} {v : Value} {n : Nat} {c : Nat → Value} (h : Row w A B v n c) (hg : w.grownBy w' (some m)) (hm : m < A ∨ B ≤ m) (hB : B ≤ w.heap.size) : Row w' A B v n c := by
  obtain ⟨ao, k, h1, h⟩ := h
  refine ⟨ao, k, h1, fun h0 => ?_⟩
  obtain ⟨b, o, h2, h3, h4⟩ := h h0
  refine ⟨b, o, h2, h3, fun i hi => ?_⟩
  rw [World.cell?_of_block (w := w) (hg.block b (by omega) (fun e => by injection e; omega))]
  exact h4 i hi
theorem Strs.grown {w w' : World} {A B m : Nat} {v : Value} {X : Str} (h : Strs w A B v X) (hg : w.grownBy w' (some m)) (hm : m < A ∨ B ≤ m) (hB : B ≤ w.heap.size) : Strs w' A B v X := Row.grown h hg hm hB
theorem Grants.grown {w w' : World} {A I J B m : Nat} {v : Value} {X : Grs} (h : Grants w A I J B v X) (hg : w.grownBy w' (some m)) (hm : m < A ∨ B ≤ m) (hi : m < I ∨ J ≤ m) (hB : B ≤ w.heap.size) (hJ : J ≤ w.heap.size) : Grants w' A I J B v X := by
  obtain ⟨c, h1, h2⟩ := h
  exact ⟨c, h1.grown hg hm hB, fun i h => (h2 i h).grown hg hi hJ⟩
theorem Fields.grown {w w' : World} {A I J B m : Nat} {vi va vd : Value} {X : Sp} (h : Fields w A I J B vi va vd X) (hg : w.grownBy w' (some m)) (hm : m < A ∨ B ≤ m) (hi : m < I ∨ J ≤ m) (hB : B ≤ w.heap.size) (hJ : J ≤ w.heap.size) :
    Fields w' A I J B vi va vd X := ⟨h.inh.grown hg hm hB, h.allow.grown hg hm hi hB hJ, h.deny.grown hg hm hi hB hJ⟩

/-- A policyRole in block g. -/
def RoleAt (W : World) (A J B g : Nat) (X : Sp) : Prop := (A ≤ g ∧ g < B) ∧ ∃ vi va vd, W.cell? ⟨g, 1, none⟩ = some vi ∧ W.cell? ⟨g, 2, none⟩ = some va ∧ W.cell? ⟨g, 3, none⟩ = some vd ∧ Fields W A 0 J B vi va vd X
theorem RoleAt.below {W W' : World} {A J B B' g : Nat} {X : Sp} (h : RoleAt W A J B g X) (hb : Below B' W W') (hB : B ≤ B') (hJ : J ≤ B') : RoleAt W' A J B g X := by
  obtain ⟨h0, vi, va, vd, g1, g2, g3, hf⟩ := h
  have hg : g < B' := by omega
  exact ⟨h0, vi, va, vd, (hb.cell hg).trans g1, (hb.cell hg).trans g2, (hb.cell hg).trans g3, hf.below hb hB hJ⟩
theorem RoleAt.mono {W : World} {A A' J J' B B' g : Nat} {X : Sp} (h : RoleAt W A J B g X) (hA : A' ≤ A) (hJ : J ≤ J') (hB : B ≤ B') : RoleAt W A' J' B' g X := by
  obtain ⟨h0, vi, va, vd, g1, g2, g3, hf⟩ := h
  exact ⟨by omega, vi, va, vd, g1, g2, g3, hf.mono hA (Nat.le_refl _) hJ hB⟩
theorem RoleAt.grown {W W' : World} {A J B g m : Nat} {X : Sp} (h : RoleAt W A J B g X) (hg : W.grownBy W' (some m)) (hm : m < A) (hJm : J ≤ m) (hB : B ≤ W.heap.size) : RoleAt W' A J B g X := by
  obtain ⟨h0, vi, va, vd, g1, g2, g3, hf⟩ := h
  have hc : ∀ j, W'.cell? ⟨g, j, none⟩ = W.cell? ⟨g, j, none⟩ := fun j => World.cell?_of_block (w := W) (hg.block g (by omega) (fun e => by injection e; omega))
  exact ⟨h0, vi, va, vd, (hc 1).trans g1, (hc 2).trans g2, (hc 3).trans g3, hf.grown hg (.inl hm) (.inr hJm) hB (by omega)⟩

/-- The map in block mb holds the first k specs. -/
structure T9 (w : World) (p : Nat → Sp) (k : Nat) (W : World) : Prop where
  bel : Below w.heap.size w W
  size : w.heap.size < W.heap.size
  map : ∃ D Gs, W.ownsMap Try.prog 37 R w.heap.size k D ∧ Look D p k Gs ∧ ∀ i, i < k → RoleAt W (w.heap.size + 1) w.heap.size W.heap.size (Gs i) (p i)
theorem T9.below {w W W' : World} {p : Nat → Sp} {k : Nat} (h : T9 w p k W) (hb : Below W.heap.size W W') : T9 w p k W' := by
  obtain ⟨h1, h2, D, Gs, h3, h4, h5⟩ := h
  have hs := hb.size
  exact ⟨h1.trans (hb.mono (by omega)), by omega, D, Gs, owns_below h3 hb h2, h4, fun i hi => ((h5 i hi).below hb (Nat.le_refl _) (by omega)).mono (Nat.le_refl _) (Nat.le_refl _) hs⟩

theorem upd_exists (mb : Nat) (nm : ByteArray) (hn : nm.size ≤ maxLen) : ∃ upd : World → Nat → World, ∀ (W : World) (g m : Nat) (D : DataW Unit), m < maxLen → W.ownsMap Try.prog 37 R mb m D →
    (Instr.mapUpdate 52 (.map (some mb)) (.agg #[.string nm]) (.pointer (some ⟨g, 0, none⟩))).run Try.prog W = .ok () (upd W g) ∧ (upd W g).ownsMap Try.prog 37 R mb (m + 1) (D.put (kl nm) (.lit (.int .i64 (g : Int)))) ∧ W.grownBy (upd W g) (some mb) := by
  refine ⟨fun W g => match (Instr.mapUpdate 52 (.map (some mb)) (.agg #[.string nm]) (.pointer (some ⟨g, 0, none⟩))).run Try.prog W with | .ok _ W' => W' | _ => W, fun W g m D hm h => ?_⟩
  obtain ⟨W', h1, h2, h3⟩ := h.update K37 Try.underlying52 hm (key37 nm hn) (val := .pointer (some ⟨g, 0, none⟩)) (d := .lit (.int .i64 (g : Int))) (ps := []) rfl
  simp only [h1]
  exact ⟨trivial, h2, h3⟩
end Go.Proofs.Qxb6630161a
