/-
  Seat b6630020a: the walk of FnAppendNameTextIsCanonicalTextOfLabels.
-/
import Derived.Test.Qxb6630020aWalksE
namespace Go.Proofs.Qxb6630020a
open Go.RowKit

theorem Own64.at {w : World} {B : Nat} {a : Option Addr} {n c : Nat} {L : List Int} (h : Own64 w B (.slice a n c) L) {B' : Nat} (hB : w.heap.size ≤ B') :
    L = [] ∨ ∃ b, a = some ⟨b, 0, none⟩ ∧ b < B' ∧ ∀ i, i < L.length → w.cell? ⟨b, i, none⟩ = some (.int .i64 (L.getD i 0)) := by
  rcases h.2 with ⟨h', h0⟩ | ⟨g, cap', cur, h', _⟩
  · exact .inl (List.eq_nil_of_length_eq_zero h0)
  · simp only [Value.slice.injEq] at h'
    obtain ⟨rfl, rfl, rfl⟩ := h'
    refine .inr ⟨g, rfl, ?_, fun i hi => ?_⟩
    · have := (World.ownsRow.lt h g rfl).2; omega
    · rw [World.ownsRow.cellAt h i (by omega)]
      simp [I64, hi]

theorem same_c (ati : Int) (a1 a2 : Option Addr) (c1 c2 B : Nat) (G P : List Int) (at_ : Nat) (w : World) (hati : ati = (at_ : Int)) (hG : G.length ≤ 100000000) (hat : at_ + P.length ≤ G.length)
    (h1 : Holds w B a1 G) (h2 : Holds w B a2 P) (heq : ∀ i, i < P.length → G.getD (at_ + i) 0 = P.getD i 0) :
    Calls Try.prog 8 #[.slice a1 G.length c1, .int .i64 ati, .slice a2 P.length c2] w fun e w' => e = .returned (.bool true) ∧ ∃ n, w' = w.drewN n := by
  subst hati
  exact same_all a1 a2 c1 c2 B G P at_ w hG hat h1 h2 heq

set_option maxHeartbeats 2000000 in
set_option maxRecDepth 100000 in
theorem canon_main (a0 : Option Addr) (cap0 : Nat) (a1 : Option Addr) (cap1 : Nat) (X L : List Int) (w : World) (hX : X.length + L.length ≤ 1048576) (h0 : Holds w w.heap.size a0 X) (hn0 : a0 = none → X = [] ∧ cap0 = 0)
    (h1 : Holds w w.heap.size a1 L) (hn1 : a1 = none → L = [] ∧ cap1 = 0) (hcap1 : L.length ≤ cap1) (hwf : ∀ i, i < L.length → 0 ≤ L.getD i 0 ∧ L.getD i 0 ≤ 255) (hmem : ∀ x ∈ L, 0 ≤ x ∧ x ≤ 255) :
    Calls Try.prog 3 #[.slice a0 X.length cap0, .slice a1 L.length cap1] w fun e w' => e = .returned (.bool true) ∧ Below w.heap.size w w' := by
  have hneq := fun w a n c n' c' => run_neq_slice_nil_any (P := Try.prog) w 22 5 a n c n' c' Try.underlying22
  obtain ⟨T, hT⟩ : ∃ T, T = Plain.text L := ⟨_, rfl⟩
  obtain ⟨G, hG⟩ : ∃ G, G = X ++ T := ⟨_, rfl⟩
  have hTl : T.length ≤ 8000000 := by have h := Plain.text_le L; rw [hT]; omega
  have hGl : G.length ≤ 20000000 := by rw [hG, List.length_append]; omega
  have hGT1 : G.length ≤ X.length + T.length := by rw [hG, List.length_append]; omega
  have hGT2 : X.length + T.length ≤ G.length := by rw [hG, List.length_append]; omega
  have HT : Hid (T = Plain.text L ∧ G = X ++ T) := ⟨hT, hG⟩
  clear hT hG
  go_enter Try.func3, Try.ntmps3
  go_upto_if 29 with (go_at_call 5; refine (bytes5_any _ _ _ _ _ _ (by unfold maxLen; omega) (by unfold maxLen; omega) _).mono ?_; rintro e w' ⟨rfl, rfl⟩)
  go_cut [1, 5] (fun s z wc => ∃ ao cap, s = .slice ao L.length cap ∧ L.length ≤ cap ∧ Holds wc wc.heap.size ao L ∧ Below w.heap.size w wc)
  case first =>
    cases a1 with
    | none =>
      obtain ⟨rfl, rfl⟩ := hn1 rfl
      go_wp2
      go_meet
      exact ⟨_, _, rfl, hcap1, h1, Below.refl _ _⟩
    | some x =>
      go_wp2_with (first
        | (at_make; refine wpList_make8 rfl _ _ rfl L.length rfl rfl (by omega) ?_; intro w1 hZ hb1)
        | (refine wpList_copy8 rfl (.tmp 33) (.tmp 34) rfl w.heap.size _ _ L rfl rfl hZ h1 hb1 ?_; intro w2 hN hs2 hb2))
      go_meet
      refine ⟨_, _, rfl, Nat.le_refl _, Holds.more (by assumption) (by omega), by assumption⟩
  case rest =>
    obtain ⟨a1', cap1', rfl, hcp, hN2, hb2⟩ := hcut
    obtain ⟨w2, hw2⟩ : ∃ w2, w2 = wc := ⟨_, rfl⟩
    subst hw2
    clear hn1 hcap1 h1
    have hs2 := hb2.size
    have h02 : Holds w2 w2.heap.size a0 X := (h0.below hb2 (Nat.le_refl _)).more (by omega)
    clear h0
    go_wp2_with fail
    refine (copy_all a0 cap0 X w2 (by omega) h02 hn0).mono ?_
    rintro e w3 ⟨a7, c7, rfl, hO7, hb3⟩
    have hs3 := hb3.size
    go_wp2_with fail
    have h03 : Holds w3 w3.heap.size a0 X := (h02.below hb3 (Nat.le_refl _)).more hs3
    refine (copy_all a0 cap0 X w3 (by omega) h03 hn0).mono ?_
    rintro e w4 ⟨a8, c8, rfl, hO8, hb4⟩
    have hs4 := hb4.size
    clear h02 h03 hn0
    go_wp2_with fail
    have hN4 : Holds w4 w2.heap.size a1' L := (hN2.below hb3 (by omega)).below hb4 (by omega)
    refine (name_g G w3.heap.size _ X a1' L.length cap1' L w4 (by rw [HT.out.2, HT.out.1]) rfl hO8 hs4 hcp (hN4.more (by omega)) hwf (by omega) (by omega)).mono ?_
    rintro e w5 ⟨a9, c9, rfl, hO9, hb5⟩
    have hs5 := hb5.size
    clear hO8
    have hN5 : Holds w5 w2.heap.size a1' L := hN4.below hb5 (by omega)
    have H7 : Holds w5 w5.heap.size a7 X := (((hO7.holds (Nat.le_refl _)).below hb4 (Nat.le_refl _)).below hb5 (Nat.le_refl _)).more (by omega)
    have H9 : Holds w5 w5.heap.size a9 G := hO9.holds (Nat.le_refl _)
    clear hO7 hN4 hN2
    go_wp2_with fail
    refine (same_c 0 _ _ _ _ w5.heap.size G X 0 w5 rfl (by omega) (by omega) H9 H7 (fun i hi => ?_)).mono ?_
    · rw [HT.out.2, Nat.zero_add, List.getD_eq_getElem?_getD, List.getElem?_append_left hi, ← List.getD_eq_getElem?_getD]
    rintro e w' ⟨rfl, n1, rfl⟩
    obtain ⟨w6, hw6⟩ : ∃ w6, w6 = w5.drewN n1 := ⟨_, rfl⟩
    have hb6 : Below w.heap.size w w6 := by
      rw [hw6]
      exact below_drewN' ((((hb2.trans (hb3.mono (by omega))).trans (hb4.mono (by omega))).trans (hb5.mono (by omega))))
    have hN6 : Holds w6 w6.heap.size a1' L := by rw [hw6]; exact hN5.more (by simp; omega)
    have H9' : Holds w6 w6.heap.size a9 G := by rw [hw6]; exact H9
    have hsh : (a9 = none ∧ G.length = 0 ∧ c9 = 0) ∨ (∃ g, a9 = some ⟨g, 0, none⟩ ∧ g < w6.heap.size ∧ G.length ≤ c9) := by
      rcases hO9.2 with ⟨h', h0⟩ | ⟨g, cap', cur, h', _, hgg, hle, _⟩
      · simp only [Value.slice.injEq] at h'
        exact .inl ⟨h'.1, h'.2.1, h'.2.2⟩
      · simp only [Value.slice.injEq] at h'
        obtain ⟨rfl, _, rfl⟩ := h'
        exact .inr ⟨g, rfl, by rw [hw6]; exact (Array.getElem?_eq_some_iff.1 hgg).1, hle⟩
    rw [← hw6]
    clear hw6 hO9 H9 H7 hN5 hb2 hb3 hb4 hb5 hs2 hs3 hs4 hs5
    go_upto_region 18 with fail
    go_cut [9] (fun s wc => w6 = wc ∧ ∃ A C, s = .slice A T.length C ∧ Holds w6 w6.heap.size A T)
    case first =>
      rcases hsh with ⟨rfl, hg0, rfl⟩ | ⟨g, rfl, hg, hcl⟩
      · obtain rfl : X = [] := List.eq_nil_of_length_eq_zero (by omega)
        have hT0 : T = [] := List.eq_nil_of_length_eq_zero (by omega)
        subst hT0
        have hG0 : G = [] := List.eq_nil_of_length_eq_zero hg0
        subst hG0
        go_wp2
        go_meet
        exact ⟨rfl, _, _, rfl, .inl rfl⟩
      · by_cases hcp : c9 = X.length
        · subst hcp
          have hT0 : T = [] := List.eq_nil_of_length_eq_zero (by omega)
          subst hT0
          go_wp2
          go_meet
          exact ⟨rfl, some ⟨g, 0, none⟩, 0, by congr 1, .inl rfl⟩
        · go_wp2
          go_meet
          refine ⟨rfl, some ⟨g, X.length, none⟩, c9 - X.length, by congr 1; omega, ?_⟩
          have := H9'.drop0 hg X.length
          rw [HT.out.2, List.drop_left] at this
          exact this
    case rest =>
      obtain ⟨rfl, A, C, rfl, H10⟩ := hcut
      clear hsh H9'
      by_cases hroot : L.length = 0 ∨ L.getD 0 0 = 0
      · have hTT : T = [46] := by
          rw [HT.out.1]
          cases L with
          | nil => rfl
          | cons n r =>
            rcases hroot with h | h
            · simp at h
            · simp at h; rw [h]; exact Plain.text_zero r
        subst hTT
        obtain ⟨b, o, rfl, _, hcc⟩ : ∃ b o, A = some ⟨b, o, none⟩ ∧ b < w6.heap.size ∧ ∀ i, i < ([46] : List Int).length → w6.cell? ⟨b, o + i, none⟩ = some (.int .u8 (([46] : List Int).getD i 0)) := by
          rcases H10 with h | h
          · cases h
          · exact h
        have c46 : w6.cell? ⟨b, o, none⟩ = some (.int .u8 46) := by simpa using hcc 0 (by simp)
        clear hcc H10
        go_wp2_with fail
        refine (wire_root a1' cap1' w6.heap.size L w6 hN6 hroot).mono ?_
        rintro e w' ⟨rfl, rfl⟩
        clear hroot
        go_wp2
        go_ret
        exact ⟨rfl, hb6⟩
      · obtain ⟨S, hS⟩ : ∃ S, S = Plain.labels L := ⟨_, rfl⟩
        have hSl : S.length ≤ 2000000 := by have := Plain.labels_le L; rw [hS]; omega
        have HS : Hid (S = Plain.labels L ∧ T = Plain.encs S ∧ ∀ x ∈ S, x = -1 ∨ (0 ≤ x ∧ x ≤ 255)) :=
          ⟨hS, by rw [HT.out.1, Plain.text_labels L hmem (by omega) (fun h => hroot (.inr h)), hS], by rw [hS]; exact Plain.labels_mem L hmem⟩
        have hw := wire_all a1' cap1' w6.heap.size L w6 hN6 (Nat.le_refl _) hwf (by omega) (by omega) (fun h => hroot (.inr h))
        rw [← hS] at hw
        clear hroot hS hmem hwf hN6
        go_wp2_with fail
        refine hw.mono ?_
        clear hw
        rintro e w7 ⟨a10, c10, cnt, rfl, hcn1, hcn2, hO10, hb7⟩
        have hs7 := hb7.size
        have hcn0 : ((cnt : Int) == 0) = false := by simp; omega
        have H10' : Holds w7 w6.heap.size A T := H10.below hb7 (Nat.le_refl _)
        go_wp2_with fail
        refine (parse_all A C w6.heap.size S T w7 HS.out.2.1 HS.out.2.2 H10' hs7 (by omega) (by omega)).mono ?_
        rintro e w8 ⟨a12, c12, rfl, hO12, hb8⟩
        have hs8 := hb8.size
        have HB : Hid (Below w.heap.size w w8) := show Below _ _ _ from (hb6.trans (hb7.mono hb6.size)).trans (hb8.mono (by have := hb6.size; omega))
        have P1 := hO10.at (Nat.le_refl _)
        have P2 := hO12.at (Nat.le_refl _)
        clear H10 H10' hb6 hO10 hO12
        go_wp2
        go_loopg [14] S.length (fun g i wr => ∃ k n : Nat, k ≤ S.length ∧ g = S.length - k ∧ i = .int .i64 k ∧ wr = w8.drewN n)
        case atStart => exact ⟨0, 0, by omega, by omega, rfl, rfl⟩
        case round =>
          obtain ⟨k, nq0, hk, hg, rfl, rfl⟩ := hrel
          by_cases hlt : k < S.length
          · have hne : S ≠ [] := fun h => by rw [h] at hlt; simp at hlt
            obtain ⟨b1, hP1, hP1b, hc1⟩ := P1.resolve_left hne
            obtain ⟨b2, hP2, hP2b, hc2⟩ := P2.resolve_left hne
            subst hP1
            subst hP2
            obtain ⟨c, hcc⟩ : ∃ c, c = S.getD k 0 := ⟨_, rfl⟩
            have g1 : w8.cell? ⟨b1, k, none⟩ = some (.int .i64 c) := (hb8.cell hP1b).trans (by rw [hcc]; exact hc1 k hlt)
            have g2 : w8.cell? ⟨b2, k, none⟩ = some (.int .i64 c) := by rw [hcc]; exact hc2 k hlt
            have l2 : (k : Int) < (S.length : Int) := by omega
            clear hc1 hc2 P1 P2 hcc hne
            go_wp2
            go_quiet (fail)
            go_wp2
            go_roundg (S.length - (k + 1))
            case measure => omega
            case rel => exact ⟨k + 1, _, by omega, rfl, by go_num, rfl⟩
          · go_wp2
            go_ret
            exact ⟨rfl, below_drewN' HB.out⟩

theorem canon_big (a0 : Option Addr) (l0 cap0 : Nat) (a1 : Option Addr) (l1 cap1 : Nat) (w : World) (h0 : l0 ≤ maxLen) (h1 : l1 ≤ maxLen) (hb : ¬ l0 + l1 ≤ 1048576) :
    Calls Try.prog 3 #[.slice a0 l0 cap0, .slice a1 l1 cap1] w fun e w' => e = .returned (.bool true) ∧ Below w.heap.size w w' := by
  go_enter Try.func3, Try.ntmps3
  go_wp2_with (go_at_call 5; refine (bytes5_any _ _ _ _ _ _ h0 h1 _).mono ?_; rintro e w' ⟨rfl, rfl⟩)
  go_ret
  exact ⟨rfl, Below.refl _ _⟩

end Go.Proofs.Qxb6630020a
