/-
  Seat b6630020a: the walk of zzParseText; the contracts of zzWireLabels and zzParseText in one form.
-/
import Derived.Test.Qxb6630020aWalksD
namespace Go.Proofs.Qxb6630020a
open Go.RowKit

set_option maxHeartbeats 4000000 in
set_option maxRecDepth 100000 in
theorem parse_loop (b o len cap : Nat) (S T : List Int) (w : World) (hb : b < w.heap.size) (hT : T = Plain.encs S) (hS : ∀ x ∈ S, x = -1 ∨ (0 ≤ x ∧ x ≤ 255))
    (hlen : T.length = len) (hc : ∀ i, i < T.length → w.cell? ⟨b, o + i, none⟩ = some (.int .u8 (T.getD i 0))) (hl : len ≤ 20000000) (hSl : S.length ≤ 20000000) :
    Calls Try.prog 10 #[.slice (some ⟨b, o, none⟩) len cap] w fun e w' => ∃ (v' : Value), e = .returned (.tuple #[v', .bool true]) ∧
      Own64 w' w.heap.size v' S ∧ Below w.heap.size w w' := by
  have HT : Hid (T = Plain.encs S) := hT
  clear hT
  go_enter Try.func10, Try.ntmps10
  go_wp2
  go_loopg [4, 5] S.length (fun g f i wr => ∃ (n p : Nat), n ≤ S.length ∧ g = S.length - n ∧ i = .int .i64 p ∧ Hid (p = (Plain.encs (S.take n)).length) ∧ p ≤ len ∧ Own64 wr w.heap.size f (S.take n) ∧ Below w.heap.size w wr)
  case atStart =>
    exact ⟨0, 0, by omega, by omega, rfl, show _ = _ by simp [Plain.encs], by omega, World.ownsRow_nil _ _ _ _, Below.refl _ _⟩
  case round =>
    obtain ⟨n, p, hn, hg, rfl, HP, hp, hownr, hbel⟩ := hrel
    have hBr : w.heap.size ≤ wr.heap.size := hbel.size
    obtain ⟨D, hD⟩ : ∃ D, D = S.take n := ⟨_, rfl⟩
    rw [← hD] at hownr
    have HDD : Hid (D = S.take n) := hD
    have D_le : D.length ≤ 20000000 := by rw [hD]; simp; omega
    clear hD
    by_cases hlt : n < S.length
    · obtain ⟨s, hs⟩ : ∃ s, s = S.getD n 0 := ⟨_, rfl⟩
      have hsw : s = -1 ∨ (0 ≤ s ∧ s ≤ 255) := by
        rw [hs, List.getD_eq_getElem?_getD, List.getElem?_eq_getElem hlt]
        exact hS _ (List.getElem_mem hlt)
      have hlen' : (Plain.encs (S.take (n + 1))).length = p + (Plain.enc s).length := by rw [Plain.sym_len S n hlt, ← hs, ← HP.out]
      have hpl : p + (Plain.enc s).length ≤ len := by have := Plain.sym_le S (n + 1); rw [← HT.out] at this; omega
      have hat : ∀ i, i < (Plain.enc s).length → wr.cell? ⟨b, o + (p + i), none⟩ = some (.int .u8 ((Plain.enc s).getD i 0)) := by
        intro i hi
        have h := Plain.sym_at S n hlt i (by rw [← hs]; exact hi)
        rw [← hs, ← HP.out, ← HT.out] at h
        exact (hbel.cell hb).trans (by rw [← h]; exact hc (p + i) (by omega))
      have HD1 : Hid (D ++ [s] = S.take (n + 1)) := show _ = _ by rw [HDD.out, Plain.take_snoc S n hlt, ← hs]
      have HL : Hid (∀ q, q = p + (Plain.enc s).length → q = (Plain.encs (S.take (n + 1))).length) := show ∀ q, _ from fun q hq => by rw [hq, hlen']
      clear hs hlen' hc hS
      rcases (show s = -1 ∨ (s = 46 ∨ s = 92) ∨ ((0 ≤ s ∧ s ≤ 255) ∧ ¬ (s = 46 ∨ s = 92) ∧ (s ≤ 32 ∨ 126 < s)) ∨ ((0 ≤ s ∧ s ≤ 255) ∧ ¬ (s = 46 ∨ s = 92) ∧ ¬ (s ≤ 32 ∨ 126 < s)) by omega) with hw | hw | hw | hw
      · have e : Plain.enc s = [46] := by simp [Plain.enc, hw]
        rw [e] at hat hpl HL
        have c0 := hat 0 (by simp)
        simp at c0 hpl
        subst hw
        clear hat e hsw
        go_wp2_with (at_builtin; refine wpList_app64 rfl (.tmp 22) (.tmp 23) rfl (-1) rfl rfl hbel hBr hownr (by omega) ?_; intro v' w1 R1 R2)
        have RR : Hid (_ ∧ _) := And.intro R1 R2
        clear R1 R2 hownr hbel
        go_wp2
        go_roundg (S.length - (n + 1))
        case measure => omega
        case rel => exact ⟨n + 1, p + 1, by omega, rfl, by go_num, HL.out _ rfl, by omega, HD1.out ▸ RR.out.1, RR.out.2⟩
      · have e : Plain.enc s = [92, s] := by rw [Plain.enc, if_neg (by omega), Plain.esc1_two s hw]
        rw [e] at hat hpl HL
        have c0 := hat 0 (by simp)
        have c1 := hat 1 (by simp)
        simp at c0 c1 hpl
        have hs0 : 0 ≤ s := by omega
        have hs1 : s ≤ 255 := by omega
        clear hat e hsw
        rcases hw with hw | hw
        · have t1 : (s == 46) = true := by simp [hw]
          clear hw
          go_wp2_with (at_builtin; refine wpList_app64 rfl (.tmp 58) (.tmp 61) rfl s rfl rfl hbel hBr hownr (by omega) ?_; intro v' w1 R1 R2)
          have RR : Hid (_ ∧ _) := And.intro R1 R2
          clear R1 R2 hownr hbel
          go_wp2
          go_roundg (S.length - (n + 1))
          case measure => omega
          case rel => exact ⟨n + 1, p + 2, by omega, rfl, by go_num, HL.out _ rfl, by omega, HD1.out ▸ RR.out.1, RR.out.2⟩
        · have t1 : (s == 46) = false := by simp [hw]
          have t2 : (s == 92) = true := by simp [hw]
          clear hw
          go_wp2_with (at_builtin; refine wpList_app64 rfl (.tmp 58) (.tmp 61) rfl s rfl rfl hbel hBr hownr (by omega) ?_; intro v' w1 R1 R2)
          have RR : Hid (_ ∧ _) := And.intro R1 R2
          clear R1 R2 hownr hbel
          go_wp2
          go_roundg (S.length - (n + 1))
          case measure => omega
          case rel => exact ⟨n + 1, p + 2, by omega, rfl, by go_num, HL.out _ rfl, by omega, HD1.out ▸ RR.out.1, RR.out.2⟩
      · have e : Plain.enc s = [92, 48 + s / 100, 48 + s / 10 % 10, 48 + s % 10] := by rw [Plain.enc, if_neg (by omega), Plain.esc1_four s hw.2.1 hw.2.2]
        rw [e] at hat hpl HL
        have c0 := hat 0 (by simp)
        have c1 := hat 1 (by simp)
        have c2 := hat 2 (by simp)
        have c3 := hat 3 (by simp)
        simp at c0 c1 c2 c3 hpl
        obtain ⟨d1, h1⟩ : ∃ d, d = 48 + s / 100 := ⟨_, rfl⟩
        obtain ⟨d2, h2⟩ : ∃ d, d = 48 + s / 10 % 10 := ⟨_, rfl⟩
        obtain ⟨d3, h3⟩ : ∃ d, d = 48 + s % 10 := ⟨_, rfl⟩
        rw [← h1] at c1
        rw [← h2] at c2
        rw [← h3] at c3
        have HV : Hid ((d1 - 48) * 100 + (d2 - 48) * 10 + (d3 - 48) = s) := show _ = _ by omega
        have b1 : 48 ≤ d1 := by omega
        have b2 : d1 ≤ 50 := by omega
        have b3 : 48 ≤ d2 := by omega
        have b4 : d2 ≤ 57 := by omega
        have b5 : 48 ≤ d3 := by omega
        have b6 : d3 ≤ 57 := by omega
        have b7 : (d1 - 48) * 100 + (d2 - 48) * 10 + (d3 - 48) ≤ 255 := by omega
        have t1 : (d1 == 46) = false := by simp; omega
        have t2 : (d1 == 92) = false := by simp; omega
        have hv : (d1 - 48) * 100 + (d2 - 48) * 10 + (d3 - 48) ≤ 32 ∨ 126 < (d1 - 48) * 100 + (d2 - 48) * 10 + (d3 - 48) := by omega
        clear hat e hsw hw h1 h2 h3
        rcases hv with hv | hv
        · have hv' : decide (33 ≤ (d1 - 48) * 100 + (d2 - 48) * 10 + (d3 - 48)) = false := by simp; omega
          go_wp2_with (at_builtin; refine wpList_app64 rfl (.tmp 128) (.tmp 130) rfl ((d1 - 48) * 100 + (d2 - 48) * 10 + (d3 - 48)) rfl rfl hbel hBr hownr (by omega) ?_; intro v' w1 R1 R2)
          rw [HV.out] at R1
          have RR : Hid (_ ∧ _) := And.intro R1 R2
          clear R1 R2 hownr hbel
          go_wp2
          go_roundg (S.length - (n + 1))
          case measure => omega
          case rel => exact ⟨n + 1, p + 4, by omega, rfl, by go_num, HL.out _ rfl, by omega, HD1.out ▸ RR.out.1, RR.out.2⟩
        · have hv' : 33 ≤ (d1 - 48) * 100 + (d2 - 48) * 10 + (d3 - 48) := by omega
          go_wp2_with (at_builtin; refine wpList_app64 rfl (.tmp 128) (.tmp 130) rfl ((d1 - 48) * 100 + (d2 - 48) * 10 + (d3 - 48)) rfl rfl hbel hBr hownr (by omega) ?_; intro v' w1 R1 R2)
          rw [HV.out] at R1
          have RR : Hid (_ ∧ _) := And.intro R1 R2
          clear R1 R2 hownr hbel
          go_wp2
          go_roundg (S.length - (n + 1))
          case measure => omega
          case rel => exact ⟨n + 1, p + 4, by omega, rfl, by go_num, HL.out _ rfl, by omega, HD1.out ▸ RR.out.1, RR.out.2⟩
      · have e : Plain.enc s = [s] := by rw [Plain.enc, if_neg (by omega), Plain.esc1_one s hw.2.1 hw.2.2]
        rw [e] at hat hpl HL
        have c0 := hat 0 (by simp)
        simp at c0 hpl
        have t1 : (s == 46) = false := by simp; omega
        have t2 : (s == 92) = false := by simp; omega
        have b1 : 33 ≤ s := by omega
        have b2 : s ≤ 126 := by omega
        clear hat e hsw hw
        go_wp2_with (at_builtin; refine wpList_app64 rfl (.tmp 35) (.tmp 38) rfl s rfl rfl hbel hBr hownr (by omega) ?_; intro v' w1 R1 R2)
        have RR : Hid (_ ∧ _) := And.intro R1 R2
        clear R1 R2 hownr hbel
        go_wp2
        go_roundg (S.length - (n + 1))
        case measure => omega
        case rel => exact ⟨n + 1, p + 1, by omega, rfl, by go_num, HL.out _ rfl, by omega, HD1.out ▸ RR.out.1, RR.out.2⟩
    · obtain rfl : n = S.length := by omega
      have hpe : p = len := by rw [HP.out, List.take_length, ← HT.out, hlen]
      have HR : Hid (Own64 wr w.heap.size u4 S ∧ Below w.heap.size w wr) := ⟨by rw [HDD.out, List.take_length] at hownr; exact hownr, hbel⟩
      subst hpe
      clear hownr hbel
      go_wp2
      go_ret2
      exact ⟨_, rfl, HR.out.1, HR.out.2⟩

theorem parse_empty (ao : Option Addr) (cap : Nat) (w : World) :
    Calls Try.prog 10 #[.slice ao 0 cap] w fun e w' => e = .returned (.tuple #[.slice none 0 0, .bool true]) ∧ w = w' := by
  go_enter Try.func10, Try.ntmps10
  go_wp2
  refine wp_loop_rounds 1 ?_
  rw [rounds_succ]
  go_wp2
  go_ret2
  exact ⟨rfl, rfl⟩

/-- zzParseText at the text of the symbols S. -/
theorem parse_all (ao : Option Addr) (cap B : Nat) (S T : List Int) (w : World) (hT : T = Plain.encs S) (hS : ∀ x ∈ S, x = -1 ∨ (0 ≤ x ∧ x ≤ 255))
    (hc : Holds w B ao T) (hB : B ≤ w.heap.size) (hl : T.length ≤ 20000000) (hSl : S.length ≤ 20000000) :
    Calls Try.prog 10 #[.slice ao T.length cap] w fun e w' => ∃ a' c', e = .returned (.tuple #[.slice a' S.length c', .bool true]) ∧
      Own64 w' w.heap.size (.slice a' S.length c') S ∧ Below w.heap.size w w' := by
  rcases hc with h | ⟨b, o, rfl, hb, hc⟩
  · have hS0 : S = [] := by
      have h1 : (Plain.encs S).length = 0 := by rw [← hT, h]; rfl
      have := Plain.sym_end S 0 (Nat.zero_le _) (by omega)
      exact List.eq_nil_of_length_eq_zero this.symm
    subst h
    subst hS0
    refine (parse_empty ao cap w).mono fun e w' ⟨he, hw⟩ => ?_
    subst hw
    exact ⟨_, _, he, World.ownsRow_nil _ _ _ _, Below.refl _ _⟩
  · refine (parse_loop b o T.length cap S T w (by omega) hT hS rfl hc hl hSl).mono fun e w' ⟨v', he, hw, hb⟩ => ?_
    obtain ⟨a', c', rfl⟩ := hw.shape
    exact ⟨a', c', he, hw, hb⟩

/-- zzWireLabels at a name that is not the root. -/
theorem wire_all (ao : Option Addr) (cap B : Nat) (zs : List Int) (w : World) (hc : Holds w B ao zs) (hB : B ≤ w.heap.size)
    (hwf : ∀ i, i < zs.length → 0 ≤ zs.getD i 0 ∧ zs.getD i 0 ≤ 255) (hl : zs.length ≤ 2000000) (hpos : 0 < zs.length) (h0 : zs.getD 0 0 ≠ 0) :
    Calls Try.prog 9 #[.slice ao zs.length cap] w fun e w' => ∃ a' c' cnt, e = .returned (.tuple #[.slice a' (Plain.labels zs).length c', .int .i64 (cnt : Nat)]) ∧ 1 ≤ cnt ∧ cnt ≤ 2000000 ∧
      Own64 w' w.heap.size (.slice a' (Plain.labels zs).length c') (Plain.labels zs) ∧ Below w.heap.size w w' := by
  rcases hc with h | ⟨b, o, rfl, hb, hc⟩
  · rw [h] at hpos; simp at hpos
  · refine (wire_loop b o zs.length cap zs w (by omega) rfl hc hwf hl hpos h0).mono fun e w' ⟨v', cnt, he, h1, h2, hw, hb⟩ => ?_
    obtain ⟨a', c', rfl⟩ := hw.shape
    exact ⟨a', c', cnt, he, h1, by omega, hw, hb⟩
theorem wire_root (ao : Option Addr) (cap B : Nat) (zs : List Int) (w : World) (hc : Holds w B ao zs) (h0 : zs.length = 0 ∨ zs.getD 0 0 = 0) :
    Calls Try.prog 9 #[.slice ao zs.length cap] w fun e w' => e = .returned (.tuple #[.slice none 0 0, .int .i64 0]) ∧ w = w' := by
  by_cases hz : zs.length = 0
  · rw [hz]; exact wire_root_empty ao cap w
  · rcases hc with h | ⟨b, o, rfl, hb, hc⟩
    · rw [h] at hz; simp at hz
    · refine wire_root_zero b o zs.length cap w (by omega) ?_
      have h := hc 0 (by omega)
      rcases h0 with h0 | h0
      · omega
      · rw [h0] at h; simpa using h

end Go.Proofs.Qxb6630020a
