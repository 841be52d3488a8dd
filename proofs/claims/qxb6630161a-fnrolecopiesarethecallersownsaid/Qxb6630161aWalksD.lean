/-
  Seat b6630161a: walks of zzSameStrings, zzSameGrants, zzRoleIs.
-/
import Derived.Test.Qxb6630161aWalksC
namespace Go.Proofs.Qxb6630161a
open Go.RowKit

theorem Below.drewN {B : Nat} {a w : World} (h : Below B a w) (n : Nat) : Below B a (w.drewN n) := ⟨h.os, h.tape, h.output, h.size, h.block⟩

/-- true; below B the world as it was. -/
def Yes (w : World) (e : Ending) (w' : World) : Prop := e = .returned (.bool true) ∧ Below w.heap.size w w'

set_option maxHeartbeats 2000000 in
set_option maxRecDepth 100000 in
theorem sameStrings (w : World) (va vb : Value) (X : Str) (ha : Strs w 0 w.heap.size va X) (hb : Strs w 0 w.heap.size vb X) (hok : X.ok) :
    Calls Try.prog 32 #[va, vb] w (Yes w) := by
  obtain ⟨n, S⟩ := X
  obtain ⟨ao, ka, rfl, ha⟩ := ha
  obtain ⟨bo, kb, rfl, hb⟩ := hb
  unfold Str.ok at hok
  simp only at ha hb hok ⊢
  have hnn : ((n : Int) == n) = true := by simp
  go_enter Try.func32, Try.ntmps32
  go_wp2
  go_loopg [5] n (fun g i wr => ∃ k : Nat, i = .int .i64 k ∧ k ≤ n ∧ g = n - k ∧ Below w.heap.size w wr)
  case atStart => exact ⟨0, rfl, by omega, by omega, Below.refl _ _⟩
  case round =>
    obtain ⟨k, rfl, hk, hg, hbel⟩ := hrel
    by_cases hlt : k < n
    · obtain ⟨b1, o1, rfl, hb1, hc1⟩ := ha (by omega)
      obtain ⟨b2, o2, rfl, hb2, hc2⟩ := hb (by omega)
      have g1 := (hbel.cell hb1.2).trans (hc1 k hlt)
      have g2 := (hbel.cell hb2.2).trans (hc2 k hlt)
      generalize S k = sk at g1 g2
      have he := bytes_eq sk
      have i1 : (0 : Int) ≤ k := by omega
      have i2 : (k : Int) < n := by omega
      clear hc1 hc2 ha hb
      go_upto_region 6 with fail
      go_quiet (fail)
      go_wp2
      go_roundg (n - (k + 1))
      case measure => omega
      case rel => exact ⟨k + 1, by go_num, by omega, rfl, Below.drewN hbel _⟩
    · obtain rfl : k = n := by omega
      go_wp2
      go_ret
      exact ⟨rfl, hbel⟩

set_option maxHeartbeats 2000000 in
set_option maxRecDepth 100000 in
theorem sameGrants (w : World) (va vb : Value) (X : Grs) (ha : Grants w 0 0 w.heap.size w.heap.size va X) (hb : Grants w 0 0 w.heap.size w.heap.size vb X) (hok : X.ok) :
    Calls Try.prog 27 #[va, vb] w (Yes w) := by
  obtain ⟨n, S⟩ := X
  obtain ⟨ca, ⟨ao, ka, rfl, ha⟩, hsa⟩ := ha
  obtain ⟨cb, ⟨bo, kb, rfl, hb⟩, hsb⟩ := hb
  obtain ⟨hok, hoks⟩ := hok
  simp only at ha hb hok hoks hsa hsb ⊢
  have hnn : ((n : Int) == n) = true := by simp
  go_enter Try.func27, Try.ntmps27
  go_wp2
  go_loopg [5] n (fun g i wr => ∃ k : Nat, i = .int .i64 k ∧ k ≤ n ∧ g = n - k ∧ Below w.heap.size w wr)
  case atStart => exact ⟨0, rfl, by omega, by omega, Below.refl _ _⟩
  case round =>
    obtain ⟨k, rfl, hk, hg, hbel⟩ := hrel
    by_cases hlt : k < n
    · obtain ⟨b1, o1, rfl, hb1, hc1⟩ := ha (by omega)
      obtain ⟨b2, o2, rfl, hb2, hc2⟩ := hb (by omega)
      have d1 := hc1 k hlt
      have d2 := hc2 k hlt
      have sa := hsa k hlt
      have sb := hsb k hlt
      have hk1 := hoks k hlt
      obtain ⟨sX, hsX⟩ : ∃ sX, sX = S k := ⟨_, rfl⟩
      rw [← hsX] at sa sb hk1
      obtain ⟨a1, k1, e1⟩ := sa.form
      obtain ⟨a2, k2, e2⟩ := sb.form
      rw [e1] at d1 sa
      rw [e2] at d2 sb
      generalize hm : sX.n = m at d1 d2 sa sb
      have mk : ∀ W, Below w.heap.size w W → (W.cell? ⟨b1, o1 + k, none⟩ = some (.slice a1 m k1) ∧ W.cell? ⟨b2, o2 + k, none⟩ = some (.slice a2 m k2) ∧ Below w.heap.size w W) := fun W h => ⟨(h.cell hb1.2).trans d1, (h.cell hb2.2).trans d2, h⟩
      have s0 := mk _ hbel.drew
      have KB : Hid (∀ W W', Below W.heap.size W W' → (W.cell? ⟨b1, o1 + k, none⟩ = some (.slice a1 m k1) ∧ W.cell? ⟨b2, o2 + k, none⟩ = some (.slice a2 m k2) ∧ Below w.heap.size w W) → (W'.cell? ⟨b1, o1 + k, none⟩ = some (.slice a1 m k1) ∧ W'.cell? ⟨b2, o2 + k, none⟩ = some (.slice a2 m k2) ∧ Below w.heap.size w W')) := show ∀ W W', _ from fun W W' hb h => mk _ (h.2.2.trans (hb.mono h.2.2.size))
      have HS : Hid (∀ W, (W.cell? ⟨b1, o1 + k, none⟩ = some (.slice a1 m k1) ∧ W.cell? ⟨b2, o2 + k, none⟩ = some (.slice a2 m k2) ∧ Below w.heap.size w W) → Strs W 0 W.heap.size (.slice a1 m k1) sX ∧ Strs W 0 W.heap.size (.slice a2 m k2) sX) := show ∀ W, _ from fun W h =>
        ⟨(sa.below h.2.2 (Nat.le_refl _)).mono (Nat.le_refl _) h.2.2.size, (sb.below h.2.2 (Nat.le_refl _)).mono (Nat.le_refl _) h.2.2.size⟩
      have i1 : (0 : Int) ≤ k := by omega
      have i2 : (k : Int) < n := by omega
      clear mk sa sb hc1 hc2 ha hb hsa hsb hoks hsX e1 e2 hm d1 d2
      go_upto_region 6 with fail
      go_region_held3 (fun W => (W.cell? ⟨b1, o1 + k, none⟩ = some (.slice a1 m k1) ∧ W.cell? ⟨b2, o2 + k, none⟩ = some (.slice a2 m k2) ∧ Below w.heap.size w W))
        (first
          | exact s0
          | exact KB.out _ _ (by assumption) (by assumption))
        (first
          | (go_at_call 33; refine (grantSegments _ _ a1 m k1 rfl).mono ?_; rintro e w1 ⟨rfl, hb1⟩)
          | (go_at_call 32; refine (sameStrings _ _ _ sX (HS.out _ (by assumption)).1 (HS.out _ (by assumption)).2 hk1).mono ?_; rintro e w1 ⟨rfl, hb1⟩))
      rename_i hH
      have hb9 := hH.2.2
      clear hH s0
      go_wp2
      go_roundg (n - (k + 1))
      case measure => omega
      case rel => exact ⟨k + 1, by go_num, by omega, rfl, hb9⟩
    · obtain rfl : k = n := by omega
      go_wp2
      go_ret
      exact ⟨rfl, hbel⟩

set_option maxHeartbeats 4000000 in
set_option maxRecDepth 100000 in
theorem roleIs (w : World) (vi va vd vi' va' vd' : Value) (X : Sp) (hf : Fields w 0 0 w.heap.size w.heap.size vi va vd X) (hf' : Fields w 0 0 w.heap.size w.heap.size vi' va' vd' X) (hok : X.ok) :
    Calls Try.prog 14 #[.agg #[vi, va, vd], .agg #[.string X.name, vi', va', vd']] w (Yes w) := by
  obtain ⟨s, ⟨n, S⟩, XA, XD⟩ := X
  obtain ⟨hi, ha, hd⟩ := hf
  obtain ⟨hi', ha', hd'⟩ := hf'
  obtain ⟨hki, ka, kd⟩ := hok
  unfold Str.ok at hki
  simp only at hi hi' ha ha' hd hd' hki ka kd ⊢
  obtain ⟨ai, ki, rfl, hi⟩ := hi
  obtain ⟨bi, li, rfl, hi'⟩ := hi'
  obtain ⟨aa, ja, rfl⟩ := ha.form
  obtain ⟨ad, jd, rfl⟩ := hd.form
  obtain ⟨ba, la, rfl⟩ := ha'.form
  obtain ⟨bd, ld, rfl⟩ := hd'.form
  generalize XA.n = na at ha ha' ⊢
  generalize XD.n = nd at hd hd' ⊢
  simp only at hi hi'
  have hnn : ((n : Int) == n) = true := by simp
  go_enter Try.func14, Try.ntmps14
  go_upto_region 1 with fail
  obtain ⟨W2, hW2⟩ : ∃ W2, W2 = (w.alloc (Obj.cells #[Value.slice ai n ki, Value.slice aa na ja, Value.slice ad nd jd] 33)).alloc
      (Obj.cells #[Value.string s, Value.slice bi n li, Value.slice ba na la, Value.slice bd nd ld] 45) := ⟨_, rfl⟩
  rw [← hW2]
  have c0 : W2.cell? ⟨w.heap.size, 0, none⟩ = some (.slice ai n ki) := by rw [hW2]; simp
  have c1 : W2.cell? ⟨w.heap.size, 1, none⟩ = some (.slice aa na ja) := by rw [hW2]; simp
  have c2 : W2.cell? ⟨w.heap.size, 2, none⟩ = some (.slice ad nd jd) := by rw [hW2]; simp
  have d1 : W2.cell? ⟨w.heap.size + 1, 1, none⟩ = some (.slice bi n li) := by rw [hW2]; simp
  have d2 : W2.cell? ⟨w.heap.size + 1, 2, none⟩ = some (.slice ba na la) := by rw [hW2]; simp
  have d3 : W2.cell? ⟨w.heap.size + 1, 3, none⟩ = some (.slice bd nd ld) := by rw [hW2]; simp
  have HZ : Hid (W2.heap.size = w.heap.size + 2) := show _ = _ by rw [hW2]; simp
  have hbw : Below w.heap.size w W2 := by rw [hW2]; exact ((Below.refl _ _).alloc (Nat.le_refl _) _).alloc (by simp) _
  clear hW2
  go_wp2
  go_loopg [5] n (fun g i wr => ∃ k : Nat, i = .int .i64 k ∧ k ≤ n ∧ g = n - k ∧ Below W2.heap.size W2 wr)
  case atStart => exact ⟨0, rfl, by omega, by omega, Below.refl _ _⟩
  case round =>
    obtain ⟨k, rfl, hk, hg, hbel⟩ := hrel
    have e0 := (hbel.cell (p := ⟨w.heap.size, 0, none⟩) (by show w.heap.size < _; have := HZ.out; omega)).trans c0
    by_cases hlt : k < n
    · obtain ⟨b1, o1, rfl, hb1, hc1⟩ := hi (by omega)
      obtain ⟨b2, o2, rfl, hb2, hc2⟩ := hi' (by omega)
      have g1 := hc1 k hlt
      have g2 := hc2 k hlt
      generalize S k = sk at g1 g2
      have mk : ∀ W, Below W2.heap.size W2 W → (W.cell? ⟨w.heap.size, 0, none⟩ = some (.slice (some ⟨b1, o1, none⟩) n ki) ∧ W.cell? ⟨w.heap.size + 1, 1, none⟩ = some (.slice (some ⟨b2, o2, none⟩) n li) ∧ W.cell? ⟨b1, o1 + k, none⟩ = some (.string sk) ∧ W.cell? ⟨b2, o2 + k, none⟩ = some (.string sk) ∧ Below W2.heap.size W2 W) := fun W h => by
        have hz := HZ.out
        exact ⟨(h.cell (by show w.heap.size < _; omega)).trans c0, (h.cell (by show w.heap.size + 1 < _; omega)).trans d1, (h.cell (by show b1 < _; omega)).trans ((hbw.cell hb1.2).trans g1), (h.cell (by show b2 < _; omega)).trans ((hbw.cell hb2.2).trans g2), h⟩
      have s0 := mk _ hbel.drew
      have KB : Hid (∀ W W', Below W.heap.size W W' → (W.cell? ⟨w.heap.size, 0, none⟩ = some (.slice (some ⟨b1, o1, none⟩) n ki) ∧ W.cell? ⟨w.heap.size + 1, 1, none⟩ = some (.slice (some ⟨b2, o2, none⟩) n li) ∧ W.cell? ⟨b1, o1 + k, none⟩ = some (.string sk) ∧ W.cell? ⟨b2, o2 + k, none⟩ = some (.string sk) ∧ Below W2.heap.size W2 W) → (W'.cell? ⟨w.heap.size, 0, none⟩ = some (.slice (some ⟨b1, o1, none⟩) n ki) ∧ W'.cell? ⟨w.heap.size + 1, 1, none⟩ = some (.slice (some ⟨b2, o2, none⟩) n li) ∧ W'.cell? ⟨b1, o1 + k, none⟩ = some (.string sk) ∧ W'.cell? ⟨b2, o2 + k, none⟩ = some (.string sk) ∧ Below W2.heap.size W2 W')) := show ∀ W W', _ from fun W W' hb h => mk _ (h.2.2.2.2.trans (hb.mono h.2.2.2.2.size))
      have he := bytes_eq sk
      have i1 : (0 : Int) ≤ k := by omega
      have i2 : (k : Int) < n := by omega
      clear mk hc1 hc2 hi hi' g1 g2 c0 c1 c2 d1 d2 d3 ha ha' hd hd'
      go_upto_region 6 with fail
      go_region_held3 (fun W => (W.cell? ⟨w.heap.size, 0, none⟩ = some (.slice (some ⟨b1, o1, none⟩) n ki) ∧ W.cell? ⟨w.heap.size + 1, 1, none⟩ = some (.slice (some ⟨b2, o2, none⟩) n li) ∧ W.cell? ⟨b1, o1 + k, none⟩ = some (.string sk) ∧ W.cell? ⟨b2, o2 + k, none⟩ = some (.string sk) ∧ Below W2.heap.size W2 W))
        (first
          | exact s0
          | exact KB.out _ _ (by assumption) (by assumption))
        (first
          | (go_at_call 26; refine (roleNameString _ _).mono ?_; rintro e w1 ⟨rfl, hb1⟩))
      rename_i hH
      have hb9 := hH.2.2.2.2
      clear hH s0 e0
      go_wp2
      go_roundg (n - (k + 1))
      case measure => omega
      case rel => exact ⟨k + 1, by go_num, by omega, rfl, hb9⟩
    · obtain rfl : k = n := by omega
      have hz := HZ.out
      have e1 := (hbel.cell (p := ⟨w.heap.size, 1, none⟩) (by show w.heap.size < _; omega)).trans c1
      have e2 := (hbel.cell (p := ⟨w.heap.size, 2, none⟩) (by show w.heap.size < _; omega)).trans c2
      have f2 := (hbel.cell (p := ⟨w.heap.size + 1, 2, none⟩) (by show w.heap.size + 1 < _; omega)).trans d2
      have f3 := (hbel.cell (p := ⟨w.heap.size + 1, 3, none⟩) (by show w.heap.size + 1 < _; omega)).trans d3
      have hbw2 : Below w.heap.size w wr := hbw.trans (hbel.mono (by omega))
      have hsz := hbel.size
      have lift : ∀ {v X}, Grants w 0 0 w.heap.size w.heap.size v X → Grants wr 0 0 wr.heap.size wr.heap.size v X := fun h => (h.below hbw2 (Nat.le_refl _) (Nat.le_refl _)).mono (Nat.le_refl _) (Nat.le_refl _) (by omega) (by omega)
      have pa := lift ha
      have pa' := lift ha'
      have pd := lift hd
      have pd' := lift hd'
      clear lift hi hi' c0 c1 c2 d1 d2 d3 ha ha' hd hd' hz
      go_wp2_with fail
      refine (sameGrants _ _ _ XA pa pa' ka).mono ?_
      rintro e w1 ⟨rfl, hb1⟩
      have e2' := (hb1.cell (p := ⟨w.heap.size, 2, none⟩) (by show w.heap.size < _; have := HZ.out; omega)).trans e2
      have f3' := (hb1.cell (p := ⟨w.heap.size + 1, 3, none⟩) (by show w.heap.size + 1 < _; have := HZ.out; omega)).trans f3
      have hs1 := hb1.size
      have pd1 := (pd.below hb1 (Nat.le_refl _) (Nat.le_refl _)).mono (Nat.le_refl _) (Nat.le_refl _) hs1 hs1
      have pd1' := (pd'.below hb1 (Nat.le_refl _) (Nat.le_refl _)).mono (Nat.le_refl _) (Nat.le_refl _) hs1 hs1
      go_wp2_with fail
      refine (sameGrants _ _ _ XD pd1 pd1' kd).mono ?_
      rintro e w2 ⟨rfl, hb2⟩
      go_wp2
      go_ret
      exact ⟨rfl, hbw2.trans ((hb1.mono (by have := HZ.out; omega)).trans (hb2.mono (by have := HZ.out; omega)))⟩
end Go.Proofs.Qxb6630161a
