/-
  Seat b6630161a: walks of the small builders and copiers.
-/
import Derived.Test.Qxb6630161aBase
namespace Go.Proofs.Qxb6630161a
open Go.RowKit

theorem zzGrant (w : World) (x : Value) (ao : Option Addr) (n k : Nat) (hx : x = .slice ao n k) : Calls Try.prog 28 #[x] w fun e w' => e = .returned (.agg #[x]) ∧ Below w.heap.size w w' := by
  subst hx
  go_enter Try.func28, Try.ntmps28
  go_wp2
  refine bodyPost_ret (v := .agg #[.slice ao n k]) (by simp [results, Try.results28, go_sem]) rfl ?_
  exact ⟨rfl, ((Below.refl _ _).alloc (Nat.le_refl _) _)⟩

theorem zzRoleName (w : World) (s : ByteArray) : Calls Try.prog 11 #[.string s] w fun e w' => e = .returned (.agg #[.string s]) ∧ Below w.heap.size w w' := by
  go_enter Try.func11, Try.ntmps11
  go_wp2
  refine bodyPost_ret (v := .agg #[.string s]) (by simp [results, Try.results11, go_sem]) rfl ?_
  exact ⟨rfl, ((Below.refl _ _).alloc (Nat.le_refl _) _)⟩

theorem roleNameString (w : World) (s : ByteArray) : Calls Try.prog 26 #[.agg #[.string s]] w fun e w' => e = .returned (.string s) ∧ Below w.heap.size w w' := by
  go_enter Try.func26, Try.ntmps26
  go_wp2
  go_ret
  exact ⟨rfl, ((Below.refl _ _).alloc (Nat.le_refl _) _)⟩

theorem grantSegments (w : World) (x : Value) (ao : Option Addr) (n k : Nat) (hx : x = .slice ao n k) : Calls Try.prog 33 #[.agg #[x]] w fun e w' => e = .returned x ∧ Below w.heap.size w w' := by
  subst hx
  go_enter Try.func33, Try.ntmps33
  go_wp2
  go_ret
  exact ⟨rfl, ((Below.refl _ _).alloc (Nat.le_refl _) _)⟩

theorem newPolicy (w : World) (b : Nat) : Calls Try.prog 24 #[.map (some b)] w fun e w' => ∃ g, e = .returned (.pointer (some ⟨g, 0, none⟩)) ∧ g < w'.heap.size ∧ w'.cell? ⟨g, 0, none⟩ = some (.map (some b)) ∧ Below w.heap.size w w' := by
  go_enter Try.func24, Try.ntmps24
  go_wp2
  go_ret
  exact ⟨_, rfl, by simp, by simp, ((Below.refl _ _).alloc (Nat.le_refl _) _)⟩

theorem cell_new (w : World) (cs : Array Value) (e : TypeId) (g j : Nat) (hg : g = w.heap.size) : (w.alloc (.cells cs e)).cell? ⟨g, j, none⟩ = cs[j]? := by
  subst hg; simp

theorem newPolicyRole (w : World) (s : ByteArray) (vi va vd : Value) (a1 : Option Addr) (n1 k1 : Nat) (h1 : vi = .slice a1 n1 k1) (a2 : Option Addr) (n2 k2 : Nat) (h2 : va = .slice a2 n2 k2) (a3 : Option Addr) (n3 k3 : Nat) (h3 : vd = .slice a3 n3 k3) :
    Calls Try.prog 22 #[.agg #[.string s], .agg #[vi, va, vd]] w fun e w' => ∃ g, e = .returned (.pointer (some ⟨g, 0, none⟩)) ∧ g < w'.heap.size ∧ w'.cell? ⟨g, 1, none⟩ = some vi ∧ w'.cell? ⟨g, 2, none⟩ = some va ∧ w'.cell? ⟨g, 3, none⟩ = some vd ∧ Below w.heap.size w w' := by
  subst h1 h2 h3
  go_enter Try.func22, Try.ntmps22
  go_wp2
  go_ret
  refine ⟨_, rfl, ?_, ?_, ?_, ?_, (((Below.refl _ _).alloc (Nat.le_refl _) _).alloc (by simp) _).alloc (by simp; omega) _⟩
  · simp
  all_goals (rw [cell_new _ _ _ _ _ (by simp)]; rfl)
set_option maxHeartbeats 2000000 in
set_option maxRecDepth 100000 in
theorem cloneStrings (w : World) (B : Nat) (v : Value) (X : Str) (hx : Strs w 0 B v X) (hok : X.ok) (hB : B ≤ w.heap.size) :
    Calls Try.prog 20 #[v] w fun e w' => ∃ v', e = .returned v' ∧ Strs w' w.heap.size w'.heap.size v' X ∧ Below w.heap.size w w' := by
  obtain ⟨n, S⟩ := X
  unfold Strs at hx
  unfold Str.ok at hok
  simp only at hx hok
  have hmk := run_make_row' (P := Try.prog) 42 9 (.string ⟨#[]⟩) 16 Try.underlying42 Try.info9 rfl .i64 .i64 n (by omega) (by omega)
  have h1 := @Lib.run_eql_slice_nil Try.prog
  obtain ⟨ao, kk, rfl, hc⟩ := hx
  cases ao with
  | none =>
    go_enter Try.func20, Try.ntmps20
    go_wp2
    go_ret
    have hn : n = 0 := by
      rcases Nat.eq_zero_or_pos n with h | h
      · exact h
      · obtain ⟨b, o, h, _⟩ := hc h; cases h
    subst hn
    exact ⟨_, rfl, row_empty _ _ _ _ _ _, Below.refl _ _⟩
  | some a =>
    have hm0 := made_new w (.string ⟨#[]⟩) n 9 (fun i => .string (S i))
    go_enter Try.func20, Try.ntmps20
    go_wp2
    go_loopg [4] n (fun g i wr => ∃ k : Nat, i = .int .i64 k ∧ k ≤ n ∧ g = n - k ∧ w.heap.size < wr.heap.size ∧ Made wr w.heap.size n (fun i => .string (S i)) k ∧ Below w.heap.size w wr)
    case atStart => exact ⟨0, rfl, by omega, by omega, by simp, hm0, (Below.refl _ _).alloc (Nat.le_refl _) _⟩
    case round =>
      obtain ⟨k, rfl, hk, hg, hsz, hm, hbel⟩ := hrel
      by_cases hlt : k < n
      · obtain ⟨b, o, ho, hb, hc'⟩ := hc (by omega)
        obtain rfl : a = ⟨b, o, none⟩ := by simpa using ho
        have g1 : wr.cell? ⟨b, o + k, none⟩ = some (.string (S k)) := (hbel.cell (by show b < _; omega)).trans (hc' k hlt)
        obtain ⟨f1, f2⟩ := hm.1 k hlt
        obtain ⟨u, f1⟩ := Option.isSome_iff_exists.1 f1
        clear hc' hc ho
        go_wp2
        go_roundg (gk - 1)
        case measure => omega
        case rel =>
          exact ⟨k + 1, by go_num, by omega, by omega, by simpa using hsz, hm.setCell hlt, hbel.setCell (by simp) _⟩
      · obtain rfl : k = n := by omega
        go_wp2
        go_ret
        exact ⟨_, rfl, hm.row ⟨Nat.le_refl _, hsz⟩ _, hbel⟩

set_option maxHeartbeats 2000000 in
set_option maxRecDepth 100000 in
theorem cloneGrants (w : World) (B : Nat) (v : Value) (X : Grs) (hx : Grants w 0 0 B B v X) (hok : X.ok) (hB : B ≤ w.heap.size) :
    Calls Try.prog 21 #[v] w fun e w' => ∃ v', e = .returned v' ∧ Grants w' w.heap.size w.heap.size w'.heap.size w'.heap.size v' X ∧ Below w.heap.size w w' := by
  obtain ⟨n, S⟩ := X
  obtain ⟨C, hx, hS⟩ := hx
  unfold Grs.ok at hok
  simp only at hx hok hS
  obtain ⟨hok, hoks⟩ := hok
  have hmk := run_make_row' (P := Try.prog) 43 42 (.slice none 0 0) 24 Try.underlying43 Try.info42 rfl .i64 .i64 n (by omega) (by omega)
  have h1 := @Lib.run_eql_slice_nil Try.prog
  obtain ⟨ao, kk, rfl, hc⟩ := hx
  cases ao with
  | none =>
    go_enter Try.func21, Try.ntmps21
    go_wp2
    go_ret
    have hn : n = 0 := by
      rcases Nat.eq_zero_or_pos n with h | h
      · exact h
      · obtain ⟨b, o, h, _⟩ := hc h; cases h
    subst hn
    exact ⟨_, rfl, ⟨C, row_empty _ _ _ _ _ _, fun i hi => absurd hi (Nat.not_lt_zero i)⟩, Below.refl _ _⟩
  | some a =>
    have hm0 := made_new w (.slice none 0 0) n 42 C
    go_enter Try.func21, Try.ntmps21
    go_wp2
    go_loopg [4] n (fun g i wr => ∃ (k : Nat) (c : Nat → Value), i = .int .i64 k ∧ k ≤ n ∧ g = n - k ∧ w.heap.size < wr.heap.size ∧ Made wr w.heap.size n c k ∧ (∀ j, j < k → Strs wr (w.heap.size + 1) wr.heap.size (c j) (S j)) ∧ Below w.heap.size w wr)
    case atStart => exact ⟨0, C, rfl, by omega, by omega, by simp, hm0, fun j hj => absurd hj (Nat.not_lt_zero j), (Below.refl _ _).alloc (Nat.le_refl _) _⟩
    case round =>
      obtain ⟨k, c, rfl, hk, hg, hsz, hm, hst, hbel⟩ := hrel
      by_cases hlt : k < n
      · obtain ⟨b, o, ho, hb, hc'⟩ := hc (by omega)
        obtain rfl : a = ⟨b, o, none⟩ := by simpa using ho
        have g1 : wr.cell? ⟨b, o + k, none⟩ = some (C k) := (hbel.cell (by show b < _; omega)).trans (hc' k hlt)
        have HS : Strs wr 0 B (C k) (S k) := (hS k hlt).below hbel hB
        obtain ⟨a1, k1, hck⟩ := HS.form
        have HCK : Hid (C k = .slice a1 (S k).n k1) := hck
        generalize hCk : C k = ck at *
        subst hck
        clear hc' hc ho hS
        go_wp2_with fail
        refine (cloneStrings _ B _ _ HS (hoks k hlt) (by have := hbel.size; omega)).mono ?_
        rintro e w1 ⟨v1, rfl, hs1, hb1⟩
        obtain ⟨a2, k2, rfl⟩ := hs1.form
        obtain ⟨f1, f2⟩ := (hm.below hb1 hsz).1 k hlt
        obtain ⟨u, f1⟩ := Option.isSome_iff_exists.1 f1
        have hsz1 := hb1.size
        go_wp2
        go_roundg (gk - 1)
        case measure => omega
        case rel =>
          refine ⟨k + 1, _, by go_num, by omega, by omega, by simp; omega, (hm.below hb1 hsz).step hlt _, fun j hj => ?_, (hbel.trans (hb1.mono (by omega))).setCell (by simp) _⟩
          by_cases e : j = k
          · subst e
            simp only [if_pos]
            exact (hs1.mono (by omega) (by simp)).setCell (.inl (by simp)) _
          · simp only [if_neg e]
            exact (((hst j (by omega)).below hb1 (Nat.le_refl _)).mono (Nat.le_refl _) (by simp; omega)).setCell (.inl (by simp)) _
      · obtain rfl : k = n := by omega
        go_wp2
        go_ret
        exact ⟨_, rfl, ⟨c, hm.row ⟨Nat.le_refl _, hsz⟩ _, fun j hj => (hst j hj).mono (by omega) (Nat.le_refl _)⟩, hbel⟩

set_option maxHeartbeats 2000000 in
set_option maxRecDepth 100000 in
theorem toGrants (w : World) (B : Nat) (v : Value) (X : Grs) (hx : Grants w 0 0 B B v X) (hok : X.ok) (hB : B ≤ w.heap.size) :
    Calls Try.prog 29 #[v] w fun e w' => ∃ v', e = .returned v' ∧ Grants w' w.heap.size 0 B w'.heap.size v' X ∧ Below w.heap.size w w' := by
  obtain ⟨n, S⟩ := X
  obtain ⟨C, hx, hS⟩ := hx
  unfold Grs.ok at hok
  simp only at hx hok hS
  obtain ⟨hok, hoks⟩ := hok
  have hmk := run_make_rowN 29 67 _ 1 24 Try.underlying29 Try.info67 .i64 .i64 n (by omega) (by omega)
  simp only [Nat.mul_one] at hmk
  have h1 := @Lib.run_eql_slice_nil Try.prog
  obtain ⟨ao, kk, rfl, hc⟩ := hx
  cases ao with
  | none =>
    go_enter Try.func29, Try.ntmps29
    go_wp2
    go_ret
    have hn : n = 0 := by
      rcases Nat.eq_zero_or_pos n with h | h
      · exact h
      · obtain ⟨b, o, h, _⟩ := hc h; cases h
    subst hn
    exact ⟨_, rfl, ⟨C, row_empty _ _ _ _ _ _, fun i hi => absurd hi (Nat.not_lt_zero i)⟩, Below.refl _ _⟩
  | some a =>
    have hm0 := made_newN w (Value.agg #[.slice none 0 0]).cells n 67 C
    go_enter Try.func29, Try.ntmps29
    go_wp2
    go_loopg [4] n (fun g i wr => ∃ k : Nat, i = .int .i64 k ∧ k ≤ n ∧ g = n - k ∧ w.heap.size < wr.heap.size ∧ Made wr w.heap.size n C k ∧ Below w.heap.size w wr)
    case atStart => exact ⟨0, rfl, by omega, by omega, by simp, hm0, (Below.refl _ _).alloc (Nat.le_refl _) _⟩
    case round =>
      obtain ⟨k, rfl, hk, hg, hsz, hm, hbel⟩ := hrel
      by_cases hlt : k < n
      · obtain ⟨b, o, ho, hb, hc'⟩ := hc (by omega)
        obtain rfl : a = ⟨b, o, none⟩ := by simpa using ho
        have g1 : wr.cell? ⟨b, o + k, none⟩ = some (C k) := (hbel.cell (by show b < _; omega)).trans (hc' k hlt)
        obtain ⟨a1, k1, hck⟩ := (hS k hlt).form
        have HCK : Hid (C k = .slice a1 (S k).n k1) := hck
        rw [hck] at g1
        clear hc' hc ho hS hck
        go_wp2_with fail
        refine (zzGrant _ _ a1 (S k).n k1 rfl).mono ?_
        rintro e w1 ⟨rfl, hb1⟩
        obtain ⟨f1, f2⟩ := (hm.below hb1 hsz).1 k hlt
        obtain ⟨u, f1⟩ := Option.isSome_iff_exists.1 f1
        have hsz1 := hb1.size
        go_wp2
        go_roundg (gk - 1)
        case measure => omega
        case rel =>
          rw [← HCK.out]
          exact ⟨k + 1, by go_num, by omega, by omega, by simp; omega, (hm.below hb1 hsz).setCell hlt, (hbel.trans (hb1.mono (by omega))).setCell (by simp) _⟩
      · obtain rfl : k = n := by omega
        go_wp2
        go_ret
        exact ⟨_, rfl, ⟨C, hm.row ⟨Nat.le_refl _, hsz⟩ _, fun j hj => (hS j hj).below hbel hB⟩, hbel⟩
end Go.Proofs.Qxb6630161a
