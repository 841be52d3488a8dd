/-
  Seat b6630020a: the walk of FnAppendNameTextSplitsAtFirstLabel.
-/
import Derived.Test.Qxb6630020aWalksC
import Derived.Test.Qxb6630020aPlain2
namespace Go.Proofs.Qxb6630020a
open Go.RowKit

theorem wf_take {L : List Int} (h : ∀ i, i < L.length → 0 ≤ L.getD i 0 ∧ L.getD i 0 ≤ 255) (k : Nat) : ∀ i, i < (L.take k).length → 0 ≤ (L.take k).getD i 0 ∧ (L.take k).getD i 0 ≤ 255 := by
  intro i hi
  simp only [List.length_take] at hi
  have := h i (by omega)
  simpa [show i < k by omega] using this
theorem wf_drop {L : List Int} (h : ∀ i, i < L.length → 0 ≤ L.getD i 0 ∧ L.getD i 0 ≤ 255) (k : Nat) : ∀ i, i < (L.drop k).length → 0 ≤ (L.drop k).getD i 0 ∧ (L.drop k).getD i 0 ≤ 255 := by
  intro i hi
  simp only [List.length_drop] at hi
  have := h (k + i) (by omega)
  simpa using this

theorem same_i (ati : Int) (a1 a2 : Option Addr) (c1 c2 B : Nat) (G P : List Int) (at_ : Nat) (w : World) (hati : ati = (at_ : Int)) (hG : G.length ≤ 100000000) (hat : at_ + P.length ≤ G.length)
    (h1 : Holds w B a1 G) (h2 : Holds w B a2 P) (heq : ∀ i, i < P.length → G.getD (at_ + i) 0 = P.getD i 0) :
    Calls Try.prog 8 #[.slice a1 G.length c1, .int .i64 ati, .slice a2 P.length c2] w fun e w' => e = .returned (.bool true) ∧ ∃ n, w' = w.drewN n := by
  subst hati
  exact same_all a1 a2 c1 c2 B G P at_ w hG hat h1 h2 heq

set_option maxHeartbeats 1000000 in
set_option maxRecDepth 100000 in
theorem split_main (a0 : Option Addr) (cap0 : Nat) (b o cap1 : Nat) (X L : List Int) (w : World) (hX : X.length + L.length ≤ 1048576) (h0 : Holds w w.heap.size a0 X) (hn0 : a0 = none → X = [] ∧ cap0 = 0)
    (hL : 2 ≤ L.length) (hbw : b < w.heap.size) (hc : ∀ i, i < L.length → w.cell? ⟨b, o + i, none⟩ = some (.int .u8 (L.getD i 0))) (hwf : ∀ i, i < L.length → 0 ≤ L.getD i 0 ∧ L.getD i 0 ≤ 255)
    (nn : Nat) (hnn : L.getD 0 0 = (nn : Int)) (hn1 : 1 ≤ nn) (hn2 : 1 + nn < L.length) (hk : L.getD (1 + nn) 0 ≠ 0) :
    Calls Try.prog 4 #[.slice a0 X.length cap0, .slice (some ⟨b, o, none⟩) L.length cap1] w fun e w' => e = .returned (.bool true) ∧ Below w.heap.size w w' := by
  obtain ⟨i0, hi, hz0, hz1, hz2⟩ := info_parts Try.info5
  have hneq := fun w a n c n' c' => run_neq_slice_nil_any (P := Try.prog) w 22 5 a n c n' c' Try.underlying22
  have c0 : w.cell? ⟨b, o, none⟩ = some (.int .u8 nn) := by have h := hc 0 (by omega); rw [hnn] at h; simpa using h
  have hnz : ((nn : Int) == 0) = false := by simp; omega
  obtain ⟨mm, hmm⟩ : ∃ mm, L.getD (1 + nn) 0 = mm := ⟨_, rfl⟩
  have hmz : (mm == 0) = false := by rw [hmm] at hk; simpa using hk
  have HM : Hid (L.getD (1 + nn) 0 = mm ∧ L.getD 0 0 = (nn : Int)) := ⟨hmm, hnn⟩
  clear hmm hnn hk
  obtain ⟨G, hG⟩ : ∃ G, G = X ++ Plain.text L := ⟨_, rfl⟩
  obtain ⟨F, hF⟩ : ∃ F, F = Plain.text (L.take (1 + nn)) := ⟨_, rfl⟩
  obtain ⟨R, hR⟩ : ∃ R, R = Plain.text (L.drop (1 + nn)) := ⟨_, rfl⟩
  have hGl : G.length ≤ 8000000 := by have h := Plain.text_le L; rw [hG, List.length_append]; omega
  have hFl : F.length ≤ 8000000 := by have h := Plain.text_le (L.take (1 + nn)); rw [hF]; simp only [List.length_take] at h; omega
  have hRl : R.length ≤ 8000000 := by have h := Plain.text_le (L.drop (1 + nn)); rw [hR]; simp only [List.length_drop] at h; omega
  have HG : Hid (G = X ++ Plain.text L ∧ F = Plain.text (L.take (1 + nn)) ∧ R = Plain.text (L.drop (1 + nn))) := ⟨hG, hF, hR⟩
  clear hG hF hR
  have hsrc : Holds w w.heap.size (some ⟨b, o, none⟩) L := .inr ⟨b, o, rfl, hbw, hc⟩
  go_enter Try.func4, Try.ntmps4
  go_wp2_with (first
    | (go_at_call 11; refine (bytes11_any _ _ _ _ _ _ (by unfold maxLen; omega) (by unfold maxLen; omega) _).mono ?_; rintro e w' ⟨rfl, rfl⟩)
    | (at_make; refine wpList_make8 rfl _ _ rfl L.length rfl rfl (by omega) ?_; intro w1 hZ hb1)
    | (refine wpList_copy8 rfl (.tmp 41) (.tmp 42) rfl w.heap.size _ _ L rfl rfl hZ hsrc hb1 ?_; intro w2 hN hs2 hb2; have cN0 := (HM.out.2) ▸ hN.at0 0 (by omega); have cNk := HM.out.1 ▸ hN.at0 (1 + nn) hn2))
  have h02 : Holds w2 w2.heap.size a0 X := (h0.below hb2 (Nat.le_refl _)).more (by omega)
  refine (copy_all a0 cap0 X w2 (by omega) h02 hn0).mono ?_
  rintro e w3 ⟨a7, c7, rfl, hO7, hb3⟩
  have hs3 := hb3.size
  go_wp2_with fail
  have h03 : Holds w3 w3.heap.size a0 X := (h02.below hb3 (Nat.le_refl _)).more hs3
  refine (copy_all a0 cap0 X w3 (by omega) h03 hn0).mono ?_
  rintro e w4 ⟨a8, c8, rfl, hO8, hb4⟩
  have hs4 := hb4.size
  clear h02 h03 h0 hn0
  go_wp2_with fail
  have hN3 : Holds w3 (w.heap.size + 1) (some ⟨w.heap.size, 0, none⟩) L := hN.below hb3 (by omega)
  have hN4 : Holds w4 (w.heap.size + 1) (some ⟨w.heap.size, 0, none⟩) L := hN3.below hb4 (by omega)
  refine (name_g G w3.heap.size _ X (some ⟨w.heap.size, 0, none⟩) L.length L.length L w4 HG.out.1.symm rfl hO8 hs4 (Nat.le_refl _) (hN4.more (by omega)) hwf (by omega) (by omega)).mono ?_
  rintro e w5 ⟨a9, c9, rfl, hO9, hb5⟩
  have hs5 := hb5.size
  clear hO8
  have hN5 : Holds w5 (w.heap.size + 1) (some ⟨w.heap.size, 0, none⟩) L := hN4.below hb5 (by omega)
  have H7 : Holds w5 w3.heap.size a7 X := ((hO7.holds (Nat.le_refl _)).below hb4 (Nat.le_refl _)).below hb5 (Nat.le_refl _)
  have H9 : Holds w5 w5.heap.size a9 G := hO9.holds (Nat.le_refl _)
  clear hO7 hO9 hN3 hN4 hN
  go_wp2_with fail
  refine (name_g F w5.heap.size _ [] (some ⟨w.heap.size, 0, none⟩) (1 + nn) L.length (L.take (1 + nn)) w5 (by rw [HG.out.2.1]; rfl) (by simp; omega) (World.ownsRow_nil _ _ _ _) (Nat.le_refl _) (by omega) ((hN5.take _).more (by omega)) (wf_take hwf _) (by simp) (by omega)).mono ?_
  rintro e w6 ⟨a10, c10, rfl, hO10, hb6⟩
  have hs6 := hb6.size
  have hN6 : Holds w6 (w.heap.size + 1) (some ⟨w.heap.size, 0, none⟩) L := hN5.below hb6 (by omega)
  have H7' : Holds w6 w3.heap.size a7 X := H7.below hb6 (by omega)
  have H9' : Holds w6 w5.heap.size a9 G := H9.below hb6 (by omega)
  have H10 : Holds w6 w6.heap.size a10 F := hO10.holds (Nat.le_refl _)
  clear hN5 H7 H9 hO10
  go_wp2_with fail
  refine (name_g R w6.heap.size _ [] (some ⟨w.heap.size, 1 + nn, none⟩) (L.length - (1 + nn)) (L.length - (1 + nn)) (L.drop (1 + nn)) w6 (by rw [HG.out.2.2]; rfl) (by simp) (World.ownsRow_nil _ _ _ _) (Nat.le_refl _) (Nat.le_refl _) ((hN6.more (by omega)).drop0 (by omega) _) (wf_drop hwf _) (by simp) (by omega)).mono ?_
  rintro e w7 ⟨a11, c11, rfl, hO11, hb7⟩
  have hs7 := hb7.size
  have hN7 : Holds w7 (w.heap.size + 1) (some ⟨w.heap.size, 0, none⟩) L := hN6.below hb7 (by omega)
  have H7 : Holds w7 w7.heap.size a7 X := (H7'.below hb7 (by omega)).more (by omega)
  have H9 : Holds w7 w7.heap.size a9 G := (H9'.below hb7 (by omega)).more (by omega)
  have H10' : Holds w7 w7.heap.size a10 F := (H10.below hb7 (by omega)).more (by omega)
  have H11 : Holds w7 w7.heap.size a11 R := hO11.holds (Nat.le_refl _)
  have HB : Hid (Below w.heap.size w w7) := show Below _ _ _ from ((((hb2.trans (hb3.mono (by omega))).trans (hb4.mono (by omega))).trans (hb5.mono (by omega))).trans (hb6.mono (by omega))).trans (hb7.mono (by omega))
  clear H7' H9' H10 hN6 hO11 hb1 hb2 hb3 hb4 hb5 hb6 hb7 cN0 cNk c0 hc hsrc hZ
  have HF : Hid (F = Plain.esc ((L.drop 1).take nn)) := show _ = _ by rw [HG.out.2.1, Plain.split_first L nn (by omega) HM.out.2 hn1]
  have HW : Hid (G = X ++ (F ++ (46 :: R))) := show _ = _ by rw [HG.out.1, HG.out.2.1, HG.out.2.2, Plain.split_whole L nn HM.out.2 hn1 hn2 (by rw [HM.out.1]; simpa using hmz)]
  go_wp2
  go_loop [12, 13] (fun s i => ∃ j q : Nat, 1 ≤ j ∧ j ≤ 1 + nn ∧ i = .int .i64 j ∧ s = .int .i64 q ∧ q ≤ 4 * j ∧ Hid (q = (Plain.esc ((L.drop 1).take (j - 1))).length)) (fun _ i => 1 + nn - (intOf i).toNat)
  case atStart => exact ⟨1, 0, by omega, by omega, rfl, rfl, by omega, show _ = _ by simp [Plain.esc]⟩
  case round =>
    obtain ⟨j, q, hj1, hj2, rfl, rfl, hq, HQ⟩ := hrel
    by_cases hlt : j < 1 + nn
    · obtain ⟨c, hcc⟩ : ∃ c, L.getD j 0 = c := ⟨_, rfl⟩
      have cj := hcc ▸ hN7.at0 j (by omega)
      have hwd := Plain.width_bd c
      obtain ⟨hwd1, hwd2⟩ := hwd
      have HQ1 : Hid ((q : Int) + Plain.width c = ((Plain.esc ((L.drop 1).take (j + 1 - 1))).length : Int)) := show _ = _ by
        rw [Nat.add_sub_cancel, Plain.esc_grow L j hj1 (by omega), hcc, ← HQ.out]
      clear HQ hcc
      go_wp2_with (go_at_call 12; refine (width_any _ _).mono ?_; rintro e w' ⟨rfl, rfl⟩)
      obtain ⟨q', hq'⟩ : ∃ q' : Nat, (q : Int) + Plain.width c = (q' : Int) := ⟨((q : Int) + Plain.width c).toNat, by omega⟩
      go_round
      case rel => exact ⟨j + 1, q', by omega, by omega, by go_num, by rw [hq'], by omega, show _ = _ by have := HQ1.out; omega⟩
      case measure => simp [intOf]; omega
    · obtain rfl : j = 1 + nn := by omega
      have hqF : q = F.length := by rw [HF.out, HQ.out, Nat.add_sub_cancel_left]
      subst hqF
      clear HQ
      have HL : G.length = X.length + F.length + 1 + R.length := by rw [HW.out]; simp; omega
      have hl1 : G.length ≤ X.length + F.length + 1 + R.length := by omega
      have hl2 : X.length + F.length + 1 + R.length ≤ G.length := by omega
      clear HL
      obtain ⟨b9, o9, rfl, hlt9, hc9⟩ : ∃ b o, a9 = some ⟨b, o, none⟩ ∧ b < w7.heap.size ∧ ∀ i, i < G.length → w7.cell? ⟨b, o + i, none⟩ = some (.int .u8 (G.getD i 0)) := by
        rcases H9 with h | h
        · have := congrArg List.length h; simp only [List.length_nil] at this; omega
        · exact h
      have cd : w7.cell? ⟨b9, o9 + (X.length + F.length), none⟩ = some (.int .u8 46) := by
        rw [hc9 _ (by omega), HW.out, ← List.append_assoc, List.getD_eq_getElem?_getD, List.getElem?_append_right (by simp)]
        simp
      clear hc9 hlt9 hq
      go_wp2_with fail
      refine (same_i 0 _ _ _ _ w7.heap.size G X 0 w7 rfl (by omega) (by omega) H9 H7 (fun i hi => ?_)).mono ?_
      · rw [HW.out, Nat.zero_add, List.getD_eq_getElem?_getD, List.getElem?_append_left hi, ← List.getD_eq_getElem?_getD]
      rintro e w' ⟨rfl, n1, rfl⟩
      go_wp2_with fail
      refine (same_i _ _ _ _ _ w7.heap.size G F X.length _ rfl (by omega) (by omega) H9.drewN H10'.drewN (fun i hi => ?_)).mono ?_
      · rw [HW.out, List.getD_eq_getElem?_getD, List.getElem?_append_right (by omega), Nat.add_sub_cancel_left, List.getElem?_append_left hi, ← List.getD_eq_getElem?_getD]
      rintro e w' ⟨rfl, n2, rfl⟩
      go_wp2_with fail
      refine (same_i _ _ _ _ _ w7.heap.size G R (X.length + F.length + 1) _ (by omega) (by omega) (by omega) H9.drewN H11.drewN (fun i hi => ?_)).mono ?_
      · rw [HW.out, ← List.append_assoc, List.getD_eq_getElem?_getD, List.getElem?_append_right (by simp; omega), List.length_append, show X.length + F.length + 1 + i - (X.length + F.length) = i + 1 by omega, List.getElem?_cons_succ, ← List.getD_eq_getElem?_getD]
      rintro e w' ⟨rfl, n3, rfl⟩
      go_wp2
      go_ret
      exact ⟨rfl, below_drewN' HB.out⟩

/-- The ways that end early. -/
theorem split_big (a0 : Option Addr) (l0 cap0 : Nat) (a1 : Option Addr) (l1 cap1 : Nat) (w : World) (h0 : l0 ≤ maxLen) (h1 : l1 ≤ maxLen) (hb : ¬ l0 + l1 ≤ 1048576) :
    Calls Try.prog 4 #[.slice a0 l0 cap0, .slice a1 l1 cap1] w fun e w' => e = .returned (.bool true) ∧ Below w.heap.size w w' := by
  go_enter Try.func4, Try.ntmps4
  go_wp2_with (go_at_call 11; refine (bytes11_any _ _ _ _ _ _ h0 h1 _).mono ?_; rintro e w' ⟨rfl, rfl⟩)
  go_ret
  exact ⟨rfl, Below.refl _ _⟩

theorem split_short (a0 : Option Addr) (l0 cap0 : Nat) (a1 : Option Addr) (l1 cap1 : Nat) (w : World) (hb : l0 + l1 ≤ 1048576) (hs : l1 < 2) :
    Calls Try.prog 4 #[.slice a0 l0 cap0, .slice a1 l1 cap1] w fun e w' => e = .returned (.bool true) ∧ Below w.heap.size w w' := by
  go_enter Try.func4, Try.ntmps4
  go_wp2_with (go_at_call 11; refine (bytes11_any _ _ _ _ _ _ (by unfold maxLen; omega) (by unfold maxLen; omega) _).mono ?_; rintro e w' ⟨rfl, rfl⟩)
  go_ret
  exact ⟨rfl, Below.refl _ _⟩

theorem split_zero (a0 : Option Addr) (l0 cap0 : Nat) (b o l1 cap1 : Nat) (w : World) (hb : l0 + l1 ≤ 1048576) (hs : 2 ≤ l1) (hc : w.cell? ⟨b, o, none⟩ = some (.int .u8 0)) :
    Calls Try.prog 4 #[.slice a0 l0 cap0, .slice (some ⟨b, o, none⟩) l1 cap1] w fun e w' => e = .returned (.bool true) ∧ Below w.heap.size w w' := by
  go_enter Try.func4, Try.ntmps4
  go_wp2_with (go_at_call 11; refine (bytes11_any _ _ _ _ _ _ (by unfold maxLen; omega) (by unfold maxLen; omega) _).mono ?_; rintro e w' ⟨rfl, rfl⟩)
  go_ret
  exact ⟨rfl, Below.refl _ _⟩

set_option maxHeartbeats 1000000 in
set_option maxRecDepth 100000 in
theorem split_cut (a0 : Option Addr) (cap0 : Nat) (b o l0 cap1 : Nat) (L : List Int) (w : World) (hX : l0 + L.length ≤ 1048576)
    (hL : 2 ≤ L.length) (hbw : b < w.heap.size) (hc : ∀ i, i < L.length → w.cell? ⟨b, o + i, none⟩ = some (.int .u8 (L.getD i 0)))
    (nn : Nat) (hnn : L.getD 0 0 = (nn : Int)) (hn1 : 1 ≤ nn) (hn255 : nn ≤ 255) (hn2 : L.length ≤ 1 + nn) :
    Calls Try.prog 4 #[.slice a0 l0 cap0, .slice (some ⟨b, o, none⟩) L.length cap1] w fun e w' => e = .returned (.bool true) ∧ Below w.heap.size w w' := by
  have hneq := fun w a n c n' c' => run_neq_slice_nil_any (P := Try.prog) w 22 5 a n c n' c' Try.underlying22
  have c0 : w.cell? ⟨b, o, none⟩ = some (.int .u8 nn) := by have h := hc 0 (by omega); rw [hnn] at h; simpa using h
  have hnz : ((nn : Int) == 0) = false := by simp; omega
  have HM : Hid (L.getD 0 0 = (nn : Int)) := hnn
  clear hnn
  have hsrc : Holds w w.heap.size (some ⟨b, o, none⟩) L := .inr ⟨b, o, rfl, hbw, hc⟩
  go_enter Try.func4, Try.ntmps4
  go_wp2_with (first
    | (go_at_call 11; refine (bytes11_any _ _ _ _ _ _ (by unfold maxLen; omega) (by unfold maxLen; omega) _).mono ?_; rintro e w' ⟨rfl, rfl⟩)
    | (at_make; refine wpList_make8 rfl _ _ rfl L.length rfl rfl (by omega) ?_; intro w1 hZ hb1)
    | (refine wpList_copy8 rfl (.tmp 41) (.tmp 42) rfl w.heap.size _ _ L rfl rfl hZ hsrc hb1 ?_; intro w2 hN hs2 hb2; have cN0 := HM.out ▸ hN.at0 0 (by omega)))
  go_ret
  exact ⟨rfl, by assumption⟩

set_option maxHeartbeats 1000000 in
set_option maxRecDepth 100000 in
theorem split_stop (a0 : Option Addr) (cap0 : Nat) (b o l0 cap1 : Nat) (L : List Int) (w : World) (hX : l0 + L.length ≤ 1048576)
    (hL : 2 ≤ L.length) (hbw : b < w.heap.size) (hc : ∀ i, i < L.length → w.cell? ⟨b, o + i, none⟩ = some (.int .u8 (L.getD i 0)))
    (nn : Nat) (hnn : L.getD 0 0 = (nn : Int)) (hn1 : 1 ≤ nn) (hn2 : 1 + nn < L.length) (hk : L.getD (1 + nn) 0 = 0) :
    Calls Try.prog 4 #[.slice a0 l0 cap0, .slice (some ⟨b, o, none⟩) L.length cap1] w fun e w' => e = .returned (.bool true) ∧ Below w.heap.size w w' := by
  have hneq := fun w a n c n' c' => run_neq_slice_nil_any (P := Try.prog) w 22 5 a n c n' c' Try.underlying22
  have c0 : w.cell? ⟨b, o, none⟩ = some (.int .u8 nn) := by have h := hc 0 (by omega); rw [hnn] at h; simpa using h
  have hnz : ((nn : Int) == 0) = false := by simp; omega
  have HM : Hid (L.getD (1 + nn) 0 = 0 ∧ L.getD 0 0 = (nn : Int)) := ⟨hk, hnn⟩
  clear hnn hk
  have hsrc : Holds w w.heap.size (some ⟨b, o, none⟩) L := .inr ⟨b, o, rfl, hbw, hc⟩
  go_enter Try.func4, Try.ntmps4
  go_wp2_with (first
    | (go_at_call 11; refine (bytes11_any _ _ _ _ _ _ (by unfold maxLen; omega) (by unfold maxLen; omega) _).mono ?_; rintro e w' ⟨rfl, rfl⟩)
    | (at_make; refine wpList_make8 rfl _ _ rfl L.length rfl rfl (by omega) ?_; intro w1 hZ hb1)
    | (refine wpList_copy8 rfl (.tmp 41) (.tmp 42) rfl w.heap.size _ _ L rfl rfl hZ hsrc hb1 ?_; intro w2 hN hs2 hb2; have cN0 := HM.out.2 ▸ hN.at0 0 (by omega); have cNk := HM.out.1 ▸ hN.at0 (1 + nn) hn2))
  go_ret
  exact ⟨rfl, by assumption⟩

end Go.Proofs.Qxb6630020a
