/-
  Seat b6630161a: the walk of (*Policy).Role.
-/
import Derived.Test.Qxb6630161aBuild
namespace Go.Proofs.Qxb6630161a
open Go.RowKit Go.Maps

theorem R_nil {v : Value} {ps : List MemPlace} (h : R v = some (.nil, ps)) : v = .pointer none := by
  unfold R at h
  split at h
  · rfl
  · simp at h
  · simp at h

theorem zero53 (w : World) : (zeroValue 53).run Try.prog w = .ok (.pointer none) w := by kernel_rfl

theorem lookup_run {W : World} {mb n : Nat} {D : DataW Unit} {p : Nat → Sp} {Gs : Nat → Nat} (h : W.ownsMap Try.prog 37 R mb n D) (hl : Look D p n Gs) (q : ByteArray) (hq : q.size ≤ maxLen) :
    ((∀ i, i < n → (p i).name ≠ q) ∧ ∀ m, (Instr.lookup 52 (.map (some mb)) (.agg #[.string q]) true).run Try.prog (W.drewN m) = .ok (.tuple #[.pointer none, .bool false]) (W.drewN m)) ∨
    ∃ j, j < n ∧ (p j).name = q ∧ (∀ i, j < i → i < n → (p i).name ≠ q) ∧ ∀ m, (Instr.lookup 52 (.map (some mb)) (.agg #[.string q]) true).run Try.prog (W.drewN m) = .ok (.tuple #[.pointer (some ⟨Gs j, 0, none⟩), .bool true]) (W.drewN m) := by
  have run : ∀ m, ∃ v ps, (Instr.lookup 52 (.map (some mb)) (.agg #[.string q]) true).run Try.prog (W.drewN m) = .ok (.tuple #[v, .bool (Maps.has D (kl q))]) (W.drewN m) ∧ R v = some (D.atKey (kl q) .nil, ps) := fun m => by
    have h' : (W.drewN m).ownsMap Try.prog 37 R mb n D := h
    exact h'.look_ok K37 Try.underlying52 (zero53 _) (zd := .nil) (zp := []) rfl (key37 q hq)
  rcases hl q hq with ⟨h1, h2⟩ | ⟨j, hj, h1, h2, h3, h4⟩
  · refine .inl ⟨h2, fun m => ?_⟩
    obtain ⟨v, ps, r1, r2⟩ := run m
    rw [atKey_of_not_has h1] at r2
    rw [r1, R_nil r2, h1]
  · refine .inr ⟨j, hj, h1, h2, fun m => ?_⟩
    obtain ⟨v, ps, r1, r2⟩ := run m
    rw [h4] at r2
    rw [r1, R_ptr r2, h3]

/-- What Role hands back of the specs' last place that bears the name q. -/
def Found (w' : World) (A J : Nat) (X : Sps) (q : ByteArray) (vi va vd : Value) (ok : Bool) : Prop :=
  (ok = false ∧ (∀ i, i < X.n → (X.p i).name ≠ q) ∧ vi = .slice none 0 0 ∧ va = .slice none 0 0 ∧ vd = .slice none 0 0) ∨
  ∃ j, j < X.n ∧ ok = true ∧ (X.p j).name = q ∧ (∀ i, j < i → i < X.n → (X.p i).name ≠ q) ∧ Fields w' A 0 J w'.heap.size vi va vd (X.p j)

set_option maxHeartbeats 4000000 in
set_option maxRecDepth 100000 in
theorem role (w : World) (B : Nat) (v : Value) (X : Sps) (q : ByteArray) (hp : Policy w B v X) (hok : X.ok) (hq : q.size ≤ maxLen) (hB : B ≤ w.heap.size) :
    Calls Try.prog 10 #[v, .agg #[.string q]] w fun e w' => ∃ vi va vd ok, e = .returned (.tuple #[.agg #[vi, va, vd], .bool ok]) ∧ Found w' w.heap.size B X q vi va vd ok ∧ Below w.heap.size w w' := by
  obtain ⟨pb, mb, D, Gs, rfl, hpb, hmb, hcell, hown, hlook, hroles⟩ := hp
  obtain ⟨n, p⟩ := X
  obtain ⟨hn, hps⟩ := hok
  simp only at hown hlook hroles hn hps ⊢
  obtain ⟨W2, hW2⟩ : ∃ W2, W2 = (w.alloc (Obj.cells #[.string q] 37)).alloc (Obj.cells #[Value.slice none 0 0, Value.slice none 0 0, Value.slice none 0 0] 33) := ⟨_, rfl⟩
  have hT := TB.first w #[.string q] #[.slice none 0 0, .slice none 0 0, .slice none 0 0] 37 33
  rw [← hW2] at hT
  have hT : TB w.heap.size 3 W2 W2 := hT
  have hbw : Below w.heap.size w W2 := by rw [hW2]; exact ((Below.refl _ _).alloc (Nat.le_refl _) _).alloc (by simp) _
  have c0 : W2.cell? ⟨w.heap.size, 0, none⟩ = some (.string q) := by rw [hW2]; simp
  have cp : W2.cell? ⟨pb, 0, none⟩ = some (.map (some mb)) := (hbw.cell (by show pb < _; omega)).trans hcell
  have hown2 := owns_below hown hbw (by omega)
  go_enter Try.func10, Try.ntmps10
  go_upto_region 1 with fail
  rw [← hW2]
  rcases lookup_run hown2 hlook q hq with ⟨h1, hrun⟩ | ⟨j, hj, h1, h2, hrun⟩
  · have hr1 := hrun 1
    have s0 : (fun W => W.cell? ⟨pb, 0, none⟩ = some (.map (some mb)) ∧ W.cell? ⟨w.heap.size, 0, none⟩ = some (.string q) ∧ (Instr.lookup 52 (.map (some mb)) (.agg #[.string q]) true).run Try.prog W = .ok (.tuple #[.pointer none, .bool false]) W) W2.drew := ⟨cp, c0, hr1⟩
    simp only at s0
    clear hW2 hown2 hlook hroles hown hrun
    go_region_held3 (fun W => W.cell? ⟨pb, 0, none⟩ = some (.map (some mb)) ∧ W.cell? ⟨w.heap.size, 0, none⟩ = some (.string q) ∧ (Instr.lookup 52 (.map (some mb)) (.agg #[.string q]) true).run Try.prog W = .ok (.tuple #[.pointer none, .bool false]) W)
      (first | exact s0) (fail)
    obtain ⟨e0, f0⟩ := cellOf_there hT.res 0 (by omega)
    obtain ⟨e1, f1⟩ := cellOf_there hT.res 1 (by omega)
    obtain ⟨e2, f2⟩ := cellOf_there hT.res 2 (by omega)
    clear s0 hr1 c0 cp
    rename_i hH
    clear hH
    go_wp2
    refine bodyPost_ret (v := .tuple #[.agg #[.slice none 0 0, .slice none 0 0, .slice none 0 0], .bool false]) (by simp [results, Try.results10, go_sem, e0, e1, e2]) rfl ?_
    have hb : ∀ (V : World) (j : Nat) (u : Value), Below w.heap.size w V → Below w.heap.size w (V.setCell ⟨w.heap.size + 1, j, none⟩ u) := fun V j u h => h.setCell (by show w.heap.size ≤ w.heap.size + 1; omega) u
    exact ⟨_, _, _, _, rfl, .inl ⟨rfl, h1, rfl, rfl, rfl⟩, hb _ _ _ (hb _ _ _ (hb _ _ _ hbw.drew))⟩
  · have hr1 := hrun 1
    obtain ⟨hg0, vi, va, vd, d1, d2, d3, hf⟩ := hroles j hj
    have hok1 := hps j hj
    obtain ⟨a1, k1, rfl⟩ := hf.inh.form
    obtain ⟨a2, k2, rfl⟩ := hf.allow.form
    obtain ⟨a3, k3, rfl⟩ := hf.deny.form
    obtain ⟨gj, hgj⟩ : ∃ gj, gj = Gs j := ⟨_, rfl⟩
    rw [← hgj] at d1 d2 d3 hr1 hg0
    clear hgj
    obtain ⟨pj, hpj⟩ : ∃ pj, pj = p j := ⟨_, rfl⟩
    have HPJ : Hid (pj = p j) := hpj
    rw [← hpj] at hf hok1 d1 d2 d3
    clear hpj
    have hgw : gj < w.heap.size := by omega
    have m1 := (hbw.drew.cell (p := ⟨gj, 1, none⟩) hgw).trans d1
    have m2 := (hbw.drew.cell (p := ⟨gj, 2, none⟩) hgw).trans d2
    have m3 := (hbw.drew.cell (p := ⟨gj, 3, none⟩) hgw).trans d3
    have hfd := hf.below hbw.drew hB hB
    generalize pj.inh.n = ni at hfd m1
    generalize pj.allow.n = na at hfd m2
    generalize pj.deny.n = nd at hfd m3
    have s0 : (fun W => W.cell? ⟨pb, 0, none⟩ = some (.map (some mb)) ∧ W.cell? ⟨w.heap.size, 0, none⟩ = some (.string q) ∧ (Instr.lookup 52 (.map (some mb)) (.agg #[.string q]) true).run Try.prog W = .ok (.tuple #[.pointer (some ⟨gj, 0, none⟩), .bool true]) W) W2.drew := ⟨cp, c0, hr1⟩
    simp only at s0
    clear hW2 hown2 hlook hroles hown hrun hps d1 d2 d3 hf
    go_region_held3 (fun W => W.cell? ⟨pb, 0, none⟩ = some (.map (some mb)) ∧ W.cell? ⟨w.heap.size, 0, none⟩ = some (.string q) ∧ (Instr.lookup 52 (.map (some mb)) (.agg #[.string q]) true).run Try.prog W = .ok (.tuple #[.pointer (some ⟨gj, 0, none⟩), .bool true]) W)
      (first | exact s0) (fail)
    have hTd := hT.drew
    clear s0 hr1 c0 cp
    rename_i hH
    clear hH
    have hszd := hTd.size
    go_wp2_with fail
    refine (roleClone _ B B _ _ _ pj hfd hok1 (by omega) (by omega)).mono ?_
    rintro e w1 ⟨vi', va', vd', rfl, hfr, hb1⟩
    have hT1 := TB.below hb1 hTd
    obtain ⟨x1, y1, rfl⟩ := hfr.inh.form
    obtain ⟨x2, y2, rfl⟩ := hfr.allow.form
    obtain ⟨x3, y3, rfl⟩ := hfr.deny.form
    obtain ⟨e0, f0⟩ := cellOf_there hT1.res 0 (by omega)
    obtain ⟨e1, f1⟩ := cellOf_there hT1.res 1 (by omega)
    obtain ⟨e2, f2⟩ := cellOf_there hT1.res 2 (by omega)
    have hend := fun x y z => end25 (x := x) (y := y) (z := z) hbw hT1 (hfr.inh.mono hszd (Nat.le_refl _)) (hfr.allow.mono hszd (Nat.le_refl _) (Nat.le_refl _) (Nat.le_refl _)) (hfr.deny.mono hszd (Nat.le_refl _) (Nat.le_refl _) (Nat.le_refl _)) hB
    have HE : Hid _ := hend
    clear hend m1 m2 m3 hfd hfr
    go_wp2
    refine bodyPost_ret (v := .tuple #[.agg #[.slice x1 pj.inh.n y1, .slice x2 pj.allow.n y2, .slice x3 pj.deny.n y3], .bool true]) (by simp [results, Try.results10, go_sem, e0, e1, e2]) rfl ?_
    refine ⟨_, _, _, _, rfl, .inr ⟨j, hj, rfl, h1, h2, ?_⟩, (HE.out _ _ _).2⟩
    show Fields _ _ _ _ _ _ _ _ (p j)
    rw [← HPJ.out]
    exact (HE.out _ _ _).1
end Go.Proofs.Qxb6630161a
