/-
  Seat b6630161a: the walk of zzBuildPolicy.
-/
import Derived.Test.Qxb6630161aMap
namespace Go.Proofs.Qxb6630161a
open Go.RowKit Go.Maps

/-- The map is there, of not too many entries. -/
def OM (mb k : Nat) (W : World) : Prop := ∃ m D, m ≤ k + 1 ∧ W.ownsMap Try.prog 37 R mb m D

/-- What a policy is: a pointer to a struct whose map holds the specs. -/
def Policy (W : World) (B : Nat) (v : Value) (X : Sps) : Prop := ∃ pb mb D Gs, v = .pointer (some ⟨pb, 0, none⟩) ∧ pb < B ∧ mb < B ∧ W.cell? ⟨pb, 0, none⟩ = some (.map (some mb)) ∧ W.ownsMap Try.prog 37 R mb X.n D ∧ Look D X.p X.n Gs ∧
  ∀ i, i < X.n → RoleAt W 0 B B (Gs i) (X.p i)
theorem Policy.below {W W' : World} {B B' : Nat} {v : Value} {X : Sps} (h : Policy W B v X) (hb : Below B' W W') (hB : B ≤ B') : Policy W' B v X := by
  obtain ⟨pb, mb, D, Gs, h1, h2, h3, h4, h5, h6, h7⟩ := h
  exact ⟨pb, mb, D, Gs, h1, h2, h3, (hb.cell (by show pb < B'; omega)).trans h4, owns_below h5 hb (by omega), h6, fun i hi => (h7 i hi).below hb hB hB⟩
theorem Policy.mono {W : World} {B B' : Nat} {v : Value} {X : Sps} (h : Policy W B v X) (hB : B ≤ B') : Policy W B' v X := by
  obtain ⟨pb, mb, D, Gs, h1, h2, h3, h4, h5, h6, h7⟩ := h
  exact ⟨pb, mb, D, Gs, h1, by omega, by omega, h4, h5, h6, fun i hi => (h7 i hi).mono (Nat.le_refl _) hB hB⟩

theorem newPolicyRole2 (w : World) (s : ByteArray) (a1 : Option Addr) (n1 k1 : Nat) (a2 : Option Addr) (n2 k2 : Nat) (a3 : Option Addr) (n3 k3 : Nat) :
    Calls Try.prog 22 #[.agg #[.string s], .agg #[.slice a1 n1 k1, .slice a2 n2 k2, .slice a3 n3 k3]] w fun e w' => ∃ g, e = .returned (.pointer (some ⟨g, 0, none⟩)) ∧ (w.heap.size ≤ g ∧ g < w'.heap.size) ∧
      w'.cell? ⟨g, 1, none⟩ = some (.slice a1 n1 k1) ∧ w'.cell? ⟨g, 2, none⟩ = some (.slice a2 n2 k2) ∧ w'.cell? ⟨g, 3, none⟩ = some (.slice a3 n3 k3) ∧ Below w.heap.size w w' := by
  go_enter Try.func22, Try.ntmps22
  go_wp2
  go_ret
  refine ⟨_, rfl, ?_, ?_, ?_, ?_, (((Below.refl _ _).alloc (Nat.le_refl _) _).alloc (by simp) _).alloc (by simp; omega) _⟩
  · simp; omega
  all_goals (rw [cell_new _ _ _ _ _ (by simp)]; rfl)

theorem T9.put {w W W' : World} {p : Nat → Sp} {k gr : Nat} (h : T9 w p k W) (hk : k ≤ 1048576) (hn : (p k).name.size ≤ maxLen) (hr : RoleAt W (w.heap.size + 1) w.heap.size W.heap.size gr (p k))
    (hu : ∀ m D, m < maxLen → W.ownsMap Try.prog 37 R w.heap.size m D → W'.ownsMap Try.prog 37 R w.heap.size (m + 1) (D.put (kl (p k).name) (.lit (.int .i64 (gr : Int)))) ∧ W.grownBy W' (some w.heap.size)) : T9 w p (k + 1) W' := by
  obtain ⟨h1, h2, D, Gs, h3, h4, h5⟩ := h
  obtain ⟨u1, u2⟩ := hu k D (by unfold maxLen; omega) h3
  have hs := u2.size
  have lift : ∀ g X, RoleAt W (w.heap.size + 1) w.heap.size W.heap.size g X → RoleAt W' (w.heap.size + 1) w.heap.size W'.heap.size g X := fun g X hg => (hg.grown u2 (by omega) (Nat.le_refl _) (Nat.le_refl _)).mono (Nat.le_refl _) (Nat.le_refl _) hs
  refine ⟨h1.grown u2 (by omega) (fun j hj => by injection hj; omega), by omega, _, _, u1, h4.put h3.isMap hn gr, fun i hi => ?_⟩
  by_cases e : i = k
  · subst e; simp only [if_pos]; exact lift _ _ hr
  · simp only [if_neg e]; exact lift _ _ (h5 i (by omega))

set_option maxHeartbeats 8000000 in
set_option maxRecDepth 100000 in
theorem buildPolicy (w : World) (B : Nat) (v : Value) (X : Sps) (hx : Specs w 0 B v X) (hok : X.ok) (hnm : ∀ i, i < X.n → (X.p i).name.size ≤ maxLen) (hB : B ≤ w.heap.size) :
    Calls Try.prog 9 #[v] w fun e w' => ∃ v', e = .returned v' ∧ Policy w' w'.heap.size v' X ∧ Below w.heap.size w w' := by
  obtain ⟨ao, kk, rfl, hc⟩ := hx
  obtain ⟨n, p⟩ := X
  obtain ⟨hn, hps⟩ := hok
  simp only at hc hn hps hnm ⊢
  have hmm := @run_makeMap Try.prog
  have hm0 : T9 w p 0 (w.alloc (.map #[] 0)) := ⟨(Below.refl _ _).alloc (Nat.le_refl _) _, by simp, .map [], fun _ => 0, World.ownsMap_made w _ _ _, fun q hq => .inl ⟨rfl, fun i hi => absurd hi (Nat.not_lt_zero i)⟩, fun i hi => absurd hi (Nat.not_lt_zero i)⟩
  go_enter Try.func9, Try.ntmps9
  go_wp2
  go_loopg [4] n (fun g i wr => ∃ k : Nat, i = .int .i64 k ∧ k ≤ n ∧ g = n - k ∧ T9 w p k wr)
  case atStart => exact ⟨0, rfl, by omega, by omega, hm0⟩
  case round =>
    obtain ⟨k, rfl, hk, hg, hT⟩ := hrel
    by_cases hlt : k < n
    · obtain ⟨b, o, rfl, hb, hc'⟩ := hc (by omega)
      obtain ⟨vi, va, vd, g0, g1, g2, g3, hf⟩ := hc' k hlt
      simp only at g0 hf
      have hok1 := hps k hlt
      have hn1 := hnm k hlt
      obtain ⟨pk, hpk⟩ : ∃ pk, pk = p k := ⟨_, rfl⟩
      rw [← hpk] at g0 hf hok1 hn1
      have HPK : Hid (pk = p k) := hpk
      clear hc' hc hpk hps hm0 hmm hnm
      obtain ⟨nm, XI, XA, XD⟩ := pk
      obtain ⟨ai, ji, rfl⟩ := hf.inh.form
      obtain ⟨aa, ja, rfl⟩ := hf.allow.form
      obtain ⟨ad, jd, rfl⟩ := hf.deny.form
      simp only at g0 hn1 hf
      generalize XI.n = ni at hf g1
      generalize XA.n = na at hf g2
      generalize XD.n = nd at hf g3
      have hbb : b < w.heap.size := by omega
      have e0 := (hT.bel.cell (p := ⟨b, o + k * 4, none⟩) hbb).trans g0
      go_wp2_with fail
      refine (zzRoleName _ _).mono ?_
      rintro e Wn ⟨rfl, hbn⟩
      have hTn := hT.below hbn
      have hTnS := hTn.size
      go_upto_region 6 with fail
      obtain ⟨W0, hW0⟩ : ∃ W0, W0 = Wn.alloc (Obj.cells #[Value.string nm] 37) := ⟨_, rfl⟩
      rw [← hW0]
      have cn : W0.cell? ⟨Wn.heap.size, 0, none⟩ = some (.string nm) := by rw [hW0]; simp
      have hz0 : Wn.heap.size < W0.heap.size := by rw [hW0]; simp
      have hT0 : T9 w p k W0 := by rw [hW0]; exact hTn.below ((Below.refl _ _).alloc (Nat.le_refl _) _)
      clear hW0 hTn hT hbn
      have hsz0 := hT0.size
      obtain ⟨upd, hupd⟩ := upd_exists w.heap.size nm hn1
      have cells : ∀ W : World, (∀ a : Addr, a.block < W0.heap.size → a.block ≠ w.heap.size → W.cell? a = W0.cell? a) → OM w.heap.size k W → (W.cell? ⟨Wn.heap.size, 0, none⟩ = some (.string nm) ∧ W.cell? ⟨b, o + k * 4, none⟩ = some (.string nm) ∧ W.cell? ⟨b, o + k * 4 + 1, none⟩ = some (.slice ai ni ji) ∧ W.cell? ⟨b, o + k * 4 + 2, none⟩ = some (.slice aa na ja) ∧ W.cell? ⟨b, o + k * 4 + 3, none⟩ = some (.slice ad nd jd) ∧ OM w.heap.size k W) := fun W h hom =>
        ⟨(h _ hz0 (by show Wn.heap.size ≠ w.heap.size; have := hTnS; omega)).trans cn, (h _ (by show b < _; omega) (by show b ≠ _; omega)).trans ((hT0.bel.cell hbb).trans g0), (h _ (by show b < _; omega) (by show b ≠ _; omega)).trans ((hT0.bel.cell hbb).trans g1),
          (h _ (by show b < _; omega) (by show b ≠ _; omega)).trans ((hT0.bel.cell hbb).trans g2), (h _ (by show b < _; omega) (by show b ≠ _; omega)).trans ((hT0.bel.cell hbb).trans g3), hom⟩
      have mk : ∀ W, Below W0.heap.size W0 W → (W.cell? ⟨Wn.heap.size, 0, none⟩ = some (.string nm) ∧ W.cell? ⟨b, o + k * 4, none⟩ = some (.string nm) ∧ W.cell? ⟨b, o + k * 4 + 1, none⟩ = some (.slice ai ni ji) ∧ W.cell? ⟨b, o + k * 4 + 2, none⟩ = some (.slice aa na ja) ∧ W.cell? ⟨b, o + k * 4 + 3, none⟩ = some (.slice ad nd jd) ∧ OM w.heap.size k W) := fun W h => cells W (fun a ha _ => h.cell ha) (by
        obtain ⟨D, Gs, q1, q2, q3⟩ := (hT0.below h).map
        exact ⟨k, D, by omega, q1⟩)
      have KU : Hid (∀ W gr, Below W0.heap.size W0 W → ((upd W gr).cell? ⟨Wn.heap.size, 0, none⟩ = some (.string nm) ∧ (upd W gr).cell? ⟨b, o + k * 4, none⟩ = some (.string nm) ∧ (upd W gr).cell? ⟨b, o + k * 4 + 1, none⟩ = some (.slice ai ni ji) ∧ (upd W gr).cell? ⟨b, o + k * 4 + 2, none⟩ = some (.slice aa na ja) ∧ (upd W gr).cell? ⟨b, o + k * 4 + 3, none⟩ = some (.slice ad nd jd) ∧ OM w.heap.size k (upd W gr))) := show ∀ W gr, _ from fun W gr h => by
        obtain ⟨D, Gs, q1, q2, q3⟩ := (hT0.below h).map
        obtain ⟨u0, u1, u2⟩ := hupd W gr k D (by unfold maxLen; omega) q1
        refine cells _ (fun a ha hne => ?_) ⟨k + 1, _, by omega, u1⟩
        rw [World.cell?_of_block (w := W) (u2.block a.block (Nat.lt_of_lt_of_le ha h.size) (fun e => by injection e; omega))]
        exact h.cell ha
      have MK : Hid (∀ W, Below W0.heap.size W0 W → (W.cell? ⟨Wn.heap.size, 0, none⟩ = some (.string nm) ∧ W.cell? ⟨b, o + k * 4, none⟩ = some (.string nm) ∧ W.cell? ⟨b, o + k * 4 + 1, none⟩ = some (.slice ai ni ji) ∧ W.cell? ⟨b, o + k * 4 + 2, none⟩ = some (.slice aa na ja) ∧ W.cell? ⟨b, o + k * 4 + 3, none⟩ = some (.slice ad nd jd) ∧ OM w.heap.size k W)) := mk
      have hU : ∀ W gr, OM w.heap.size k W → (Instr.mapUpdate 52 (.map (some w.heap.size)) (.agg #[.string nm]) (.pointer (some ⟨gr, 0, none⟩))).run Try.prog W = .ok () (upd W gr) := fun W gr h => by
        obtain ⟨m, D, h1, h2⟩ := h
        exact (hupd W gr m D (by unfold maxLen; omega) h2).1
      have HUP : Hid (∀ (W : World) (g m : Nat) (D : DataW Unit), m < maxLen → W.ownsMap Try.prog 37 R w.heap.size m D →
        (Instr.mapUpdate 52 (.map (some w.heap.size)) (.agg #[.string nm]) (.pointer (some ⟨g, 0, none⟩))).run Try.prog W = .ok () (upd W g) ∧ (upd W g).ownsMap Try.prog 37 R w.heap.size (m + 1) (D.put (kl nm) (.lit (.int .i64 (g : Int)))) ∧ W.grownBy (upd W g) (some w.heap.size)) := hupd
      have s0 := mk _ (Below.refl W0.heap.size W0).drew
      have hd0 : Below W0.heap.size W0 W0.drew := (Below.refl _ _).drew
      have hfd : Fields W0.drew 0 0 B B (.slice ai ni ji) (.slice aa na ja) (.slice ad nd jd) ⟨nm, XI, XA, XD⟩ := (hf.below hT0.bel hB hB).below hd0 (by omega) (by omega)
      have hBd : B ≤ W0.drew.heap.size := by show B ≤ W0.heap.size; omega
      have i1 : (0 : Int) ≤ k := by omega
      have i2 : (k : Int) < n := by omega
      have HT0 : Hid (T9 w p k W0) := hT0
      clear mk cells hupd hT0 g0 g1 g2 g3 cn e0 hf
      go_region_held3 (fun W => (W.cell? ⟨Wn.heap.size, 0, none⟩ = some (.string nm) ∧ W.cell? ⟨b, o + k * 4, none⟩ = some (.string nm) ∧ W.cell? ⟨b, o + k * 4 + 1, none⟩ = some (.slice ai ni ji) ∧ W.cell? ⟨b, o + k * 4 + 2, none⟩ = some (.slice aa na ja) ∧ W.cell? ⟨b, o + k * 4 + 3, none⟩ = some (.slice ad nd jd) ∧ OM w.heap.size k W))
        (first
          | exact s0
          | exact MK.out _ (by assumption)
          | exact KU.out _ _ (by assumption))
        (first
          | (go_at_call 23; refine (toRole _ B _ _ _ ⟨nm, XI, XA, XD⟩ hfd hok1 hBd).mono ?_; rintro e w1 ⟨vi', va', vd', rfl, hfr, hb1⟩; obtain ⟨x1, y1, rfl⟩ := hfr.inh.form; obtain ⟨x2, y2, rfl⟩ := hfr.allow.form; obtain ⟨x3, y3, rfl⟩ := hfr.deny.form; have hc1 : Below W0.heap.size W0 w1 := hd0.trans hb1)
          | (go_at_call 22; refine (newPolicyRole2 _ nm _ _ _ _ _ _ _ _ _).mono ?_; rintro e w2 ⟨gr, rfl, hgr, q1, q2, q3, hb2⟩; have hc2 : Below W0.heap.size W0 w2 := hc1.trans (hb2.mono hc1.size)))
      have hT2 : T9 w p k w2 := HT0.out.below hc2
      have z1 : W0.heap.size ≤ w1.heap.size := hc1.size
      have z2 := hb2.size
      have hr : RoleAt w2 (w.heap.size + 1) w.heap.size w2.heap.size gr (p k) := by
        rw [← HPK.out]
        exact ⟨⟨by omega, hgr.2⟩, _, _, _, q1, q2, q3, (hfr.below hb2 (Nat.le_refl _) (by omega)).mono (by show w.heap.size + 1 ≤ W0.heap.size; omega) (Nat.le_refl _) hB z2⟩
      have hTf : T9 w p (k + 1) (upd w2 gr) := hT2.put (by omega) (by rw [← HPK.out]; exact hn1) hr (by rw [← HPK.out]; exact fun m D h1 h2 => (HUP.out w2 gr m D h1 h2).2)
      clear hr hT2 hfr hfd q1 q2 q3 s0 hU
      go_wp2
      go_roundg (n - (k + 1))
      case measure => omega
      case rel => exact ⟨k + 1, by go_num, by omega, rfl, hTf⟩
    · obtain rfl : k = n := by omega
      go_wp2_with fail
      refine (newPolicy _ _).mono ?_
      rintro e w1 ⟨pb, rfl, hpb, hcell, hb1⟩
      go_wp2
      go_ret
      obtain ⟨h1, h2, D, Gs, h3, h4, h5⟩ := hT
      have hs := hb1.size
      exact ⟨_, rfl, ⟨pb, w.heap.size, D, Gs, rfl, hpb, by omega, hcell, owns_below h3 hb1 h2, h4, fun i hi => ((h5 i hi).below hb1 (Nat.le_refl _) (by omega)).mono (by omega) (by omega) (by omega)⟩, h1.trans (hb1.mono (by omega))⟩
end Go.Proofs.Qxb6630161a
