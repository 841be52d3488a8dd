/-
  Seat b6630151aF: the walk of FnParseFixedPointShiftKeepsCoefficient.
-/
import Derived.Test.Qxb6630151aFmtParse
import Derived.Test.Qxb6630151aFmtShiftLaw
import Derived.Lib.IndexBytes
namespace Go.Proofs.Qxb6630151aFmt
open Go.RowKit Go.Extern.Stop Go.Stop Go.Extern

theorem bytes8_any (s : ByteArray) (kk : Int) (w : World) (hs : s.size ≤ maxLen) :
    Calls Tryf.prog 8 #[.string s, .int .i64 kk] w fun e w' => e = .returned (.bool (decide (s.size ≤ 1048576))) ∧ w = w' := by
  unfold maxLen at hs
  go_enter Tryf.func8, Tryf.ntmps8
  go_wp2
  all_goals (go_ret; refine ⟨ret_bool ?_, rfl⟩; simp; omega)
theorem start_at (s : ByteArray) (h : 0 < s.size) : Plain.start (bs s) = if (s[0].toNat : Int) = 45 then 1 else 0 := by
  unfold Plain.start; rw [bs_get s 0 h]
theorem start_nil (s : ByteArray) (h : ¬ 0 < s.size) : Plain.start (bs s) = 0 := by
  have : bs s = [] := List.eq_nil_of_length_eq_zero (by rw [bs_length]; omega)
  rw [this]; rfl

theorem shift_big (s : ByteArray) (kk : Int) (w : World) (hs : s.size ≤ maxLen) (hb : 1048576 < s.size) :
    Calls Tryf.prog 4 #[.string s, .int .i64 kk] w fun e w' => e = .returned (.bool true) ∧ Below w.heap.size w w' := by
  unfold maxLen at hs
  go_enter Tryf.func4, Tryf.ntmps4
  go_wp2
  go_ret
  exact ⟨rfl, Below.refl _ _⟩

theorem mem_take_snoc {P : Int → Prop} {L : List Int} {k : Nat} (hk : k < L.length) (h : ∀ x ∈ L.take k, P x) (hb : P (L.getD k 0)) : ∀ x ∈ L.take (k + 1), P x := by
  rw [Plain.take_snoc L k hk]
  intro x hx
  rcases List.mem_append.1 hx with h1 | h1
  · exact h x h1
  · simp only [List.mem_singleton] at h1; rw [h1]; exact hb

theorem bs_append (a b : ByteArray) : bs (a ++ b) = bs a ++ bs b := by
  simp [bs]
theorem bs_head (s : ByteArray) (k : Nat) : bs (s.extract 0 k) = (bs s).take k := by
  unfold bs; rw [Lib.extract_data, List.drop_zero, Nat.sub_zero, List.map_take]
theorem bs_tail (s : ByteArray) (k : Nat) : bs (s.extract k s.size) = (bs s).drop k := by
  unfold bs; rw [Lib.extract_to_end, List.map_drop]
theorem bs_shift (s : ByteArray) (k : Nat) : bs (s.extract 0 k ++ { data := #[46] } ++ s.extract k s.size) = (bs s).take k ++ 46 :: (bs s).drop k := by
  rw [bs_append, bs_append, bs_head, bs_tail]
  simp [bs]
theorem cells26 {w1 w2 : World} {A B : Value} (hb : Below (w1.alloc (.cells #[A, B] 26)).heap.size (w1.alloc (.cells #[A, B] 26)) w2) :
    w2.cell? ⟨w1.heap.size, 0, none⟩ = some A ∧ w2.cell? ⟨w1.heap.size, 1, none⟩ = some B ∧ w1.heap.size < w2.heap.size ∧ Below w1.heap.size w1 w2 := by
  have hs := hb.size
  simp at hs
  refine ⟨(hb.cell (by simp)).trans (by simp), (hb.cell (by simp)).trans (by simp), by omega, ?_⟩
  exact ((Below.refl _ _).alloc (Nat.le_refl _) _).trans (hb.mono (by simp))

theorem below_drewN' {B n : Nat} {a w : World} (h : Below B a w) : Below B a (w.drewN n) := ⟨h.os, h.tape, h.output, h.size, h.block⟩

set_option maxHeartbeats 2000000 in
set_option maxRecDepth 100000 in
theorem shift_main (F : Interp) (s : ByteArray) (kk : Int) (w : World) (hF : F.answers w.tape) (hs : s.size ≤ 1048576) (hk1 : -9223372036854775808 ≤ kk) (hk2 : kk ≤ 9223372036854775807) :
    Calls Tryf.prog 4 #[.string s, .int .i64 kk] w fun e w' => e = .returned (.bool true) ∧ Below w.heap.size w w' := by
  have hb8 : decide (s.size ≤ 1048576) = true := by simp [hs]
  go_enter Tryf.func4, Tryf.ntmps4
  go_wp2_with (go_at_call 8; refine (bytes8_any _ _ _ (by unfold maxLen; omega)).mono ?_; rintro e w' ⟨rfl, rfl⟩)
  go_loop [5] (fun i => ∃ k : Nat, k ≤ s.size ∧ i = .int .i64 k ∧ Hid (∀ x ∈ (bs s).take k, x ≠ 46)) (fun i => s.size - (intOf i).toNat)
  case atStart => exact ⟨0, by omega, rfl, show ∀ x ∈ _, _ by simp⟩
  case round =>
    obtain ⟨k, hk, rfl, HD⟩ := hrel
    by_cases hlt : k < s.size
    · have hget := bs_get s k hlt
      have hkl : k < (bs s).length := by rw [bs_length]; exact hlt
      by_cases hd : (s[k].toNat : Int) = 46
      · have t1 : ((s[k].toNat : Int) == 46) = true := by simp [hd]
        clear hd hget
        go_wp2
        go_ret
        exact ⟨rfl, Below.refl _ _⟩
      · have HN : Hid (∀ x ∈ (bs s).take (k + 1), x ≠ 46) := mem_take_snoc hkl HD.out (by rw [hget]; exact hd)
        have t1 : ((s[k].toNat : Int) == 46) = false := by simp [hd]
        clear hd hget HD
        go_wp2
        go_round
        case rel => exact ⟨k + 1, by omega, by go_num, HN⟩
        case measure => simp [intOf]; omega
    · have H46 : Hid (∀ x ∈ bs s, x ≠ 46) := by
        have h := HD.out
        rw [List.take_of_length_le (by rw [bs_length]; omega)] at h
        exact h
      obtain rfl : k = s.size := by omega
      clear HD hlt
      obtain ⟨st, hst⟩ : ∃ st, st = Plain.start (bs s) := ⟨_, rfl⟩
      have hst1 : st ≤ 1 := by rw [hst]; unfold Plain.start; split <;> omega
      have HST : Hid (st = Plain.start (bs s)) := hst
      clear hst
      go_upto_region 11 with fail
      go_cut [38] (fun z wc => w = wc ∧ ∃ b : Bool, z = .bool b ∧ Hid (b = true ↔ st = 1))
      case first =>
        by_cases hpos : 0 < s.size
        · have hst' := start_at s hpos
          by_cases h45 : (s[0].toNat : Int) = 45
          · have t1 : ((s[0].toNat : Int) == 45) = true := by simp [h45]
            have hs1 : st = 1 := by rw [HST.out, hst', if_pos h45]
            have HS1 : Hid (st = 1) := hs1
            clear hst' h45 hs1
            go_wp2
            go_meet
            exact ⟨rfl, _, rfl, show _ ↔ _ by simp [HS1.out]⟩
          · have t1 : ((s[0].toNat : Int) == 45) = false := by simp [h45]
            have hs1 : st = 0 := by rw [HST.out, hst', if_neg h45]
            have HS1 : Hid (st = 0) := hs1
            clear hst' h45 hs1
            go_wp2
            go_meet
            exact ⟨rfl, _, rfl, show _ ↔ _ by simp [HS1.out]⟩
        · have hs1 : st = 0 := by rw [HST.out, start_nil s hpos]
          have HS1 : Hid (st = 0) := hs1
          have hd : decide ((0 : Int) < (s.size : Int)) = false := decide_eq_false (by omega)
          clear hs1
          go_wp2
          go_meet
          exact ⟨rfl, _, rfl, show _ ↔ _ by simp [HS1.out]⟩
      case rest =>
        obtain ⟨rfl, bb, rfl, HBB⟩ := hcut
        go_upto_if 38 with fail
        go_cut [6] (fun z wc => w = wc ∧ z = .int .i64 (st : Int))
        case first =>
          cases bb with
          | true =>
            have HS1 : Hid (st = 1) := HBB.out.1 rfl
            clear HBB
            go_wp2
            go_meet
            exact ⟨rfl, by rw [HS1.out]; rfl⟩
          | false =>
            have HS1 : Hid (st = 0) := show _ = _ by
              have h : ¬ st = 1 := fun h => by have := HBB.out.2 h; cases this
              omega
            clear HBB
            go_wp2
            go_meet
            exact ⟨rfl, by rw [HS1.out]; rfl⟩
        case rest =>
          obtain ⟨rfl, rfl⟩ := hcut
          by_cases hka : kk ≤ (st : Int)
          · go_wp2
            go_ret
            exact ⟨rfl, Below.refl _ _⟩
          · by_cases hkb : (s.size : Int) ≤ kk
            · go_wp2
              go_ret
              exact ⟨rfl, Below.refl _ _⟩
            · obtain ⟨k, rfl⟩ : ∃ k : Nat, kk = (k : Int) := ⟨kk.toNat, by omega⟩
              have hka' : st < k := by omega
              have hkb' : k < s.size := by omega
              have hkc : (k : Int) ≤ (s.size : Int) := by omega
              go_wp2
              go_quiet (fail)
              go_wp2_with fail
              have hts := bs_shift s k
              generalize s.extract 0 k ++ { data := #[46] } ++ s.extract k s.size = t at hts ⊢
              have htl : t.size ≤ 1048577 := by have := congrArg List.length hts; rw [bs_length] at this; simp [bs_length] at this; omega
              have hA := Plain.shift_s (bs s) H46.out (by rw [← HST.out, bs_length]; omega)
              have hB := Plain.shift_t (bs s) k H46.out (by rw [← HST.out]; exact hka') (by rw [bs_length]; exact hkb')
              rw [← hts] at hB
              rw [← HST.out, bs_length] at hA hB
              have HAB : Hid (_ ∧ _) := And.intro hA hB
              clear hA hB hts H46 HST
              by_cases hd : Plain.digs ((bs s).drop st) = true
              · by_cases h18 : 18 < s.size - st
                · have HA : Hid (Plain.parse (bs s) = some none) := show _ = _ by rw [HAB.out.1, if_pos hd, if_pos h18]
                  have HB : Hid (Plain.parse (bs t) = some none) := show _ = _ by rw [HAB.out.2, if_pos hd, if_pos h18]
                  clear HAB hd
                  refine (parse_any F s _ (by exact hF) (by omega)).mono ?_
                  rintro e w1 ⟨he1, hb1⟩
                  rw [HA.out] at he1
                  have he1' : e = .returned (.tuple #[.agg #[.int .i64 0, .int .i32 0], .bool false, .nilIface]) := he1
                  subst he1'
                  clear he1
                  have hF1 := answers_below hF (show Below w.heap.size w w1 from ⟨hb1.os, hb1.tape, hb1.output, hb1.size, hb1.block⟩)
                  go_wp2_with fail
                  refine (parse_any F t _ (by exact hF1) (by omega)).mono ?_
                  rintro e2 w2 ⟨he2, hb2⟩
                  rw [HB.out] at he2
                  have he2' : e2 = .returned (.tuple #[.agg #[.int .i64 0, .int .i32 0], .bool false, .nilIface]) := he2
                  subst he2'
                  clear he2
                  obtain ⟨c0, c1, hz, hb2'⟩ := cells26 hb2
                  have HBB2 : Hid (Below w.heap.size w w2) := show Below _ _ _ from (show Below w.heap.size w w1 from ⟨hb1.os, hb1.tape, hb1.output, hb1.size, hb1.block⟩).trans (hb2'.mono hb1.size)
                  clear hb2 hb2' hb1 HA HB
                  have hz2 : w.heap.size ≤ w2.heap.size := HBB2.out.size
                  go_wp2
                  go_quiet (fail)
                  go_wp2
                  go_ret
                  exact ⟨rfl, below_drewN' (HBB2.out.alloc hz2 _)⟩
                · have HA : Hid (Plain.parse (bs s) = some (some (Plain.coef (bs s), 0))) := show _ = _ by rw [HAB.out.1, if_pos hd, if_neg h18]
                  have HB : Hid (Plain.parse (bs t) = some (some (Plain.coef (bs s), (s.size : Int) - (k : Int)))) := show _ = _ by rw [HAB.out.2, if_pos hd, if_neg h18, show ((s.size - k : Nat) : Int) = (s.size : Int) - (k : Int) by omega]
                  have h18' : decide ((s.size : Int) - (st : Int) ≤ 18) = true := decide_eq_true (by omega)
                  have hp1 : (s.size : Int) - (k : Int) ≤ 18 := by omega
                  have hp2 : 0 ≤ (s.size : Int) - (k : Int) := by omega
                  clear HAB hd
                  generalize Plain.coef (bs s) = C at HA HB
                  refine (parse_any F s _ (by exact hF) (by omega)).mono ?_
                  rintro e w1 ⟨he1, hb1⟩
                  rw [HA.out] at he1
                  have he1' : e = .returned (.tuple #[.agg #[.int .i64 C, .int .i32 0], .bool true, .nilIface]) := he1
                  subst he1'
                  clear he1
                  have hF1 := answers_below hF (show Below w.heap.size w w1 from ⟨hb1.os, hb1.tape, hb1.output, hb1.size, hb1.block⟩)
                  go_wp2_with fail
                  refine (parse_any F t _ (by exact hF1) (by omega)).mono ?_
                  rintro e2 w2 ⟨he2, hb2⟩
                  rw [HB.out] at he2
                  have he2' : e2 = .returned (.tuple #[.agg #[.int .i64 C, .int .i32 ((s.size : Int) - (k : Int))], .bool true, .nilIface]) := he2
                  subst he2'
                  clear he2
                  obtain ⟨c0, c1, hz, hb2'⟩ := cells26 hb2
                  have HBB2 : Hid (Below w.heap.size w w2) := show Below _ _ _ from (show Below w.heap.size w w1 from ⟨hb1.os, hb1.tape, hb1.output, hb1.size, hb1.block⟩).trans (hb2'.mono hb1.size)
                  clear hb2 hb2' hb1 HA HB
                  have hz2 : w.heap.size ≤ w2.heap.size := HBB2.out.size
                  go_wp2
                  go_quiet (fail)
                  go_wp2
                  go_ret
                  exact ⟨rfl, below_drewN' (HBB2.out.alloc hz2 _)⟩
              · have HA : Hid (Plain.parse (bs s) = none) := show _ = _ by rw [HAB.out.1, if_neg hd]
                have HB : Hid (Plain.parse (bs t) = none) := show _ = _ by rw [HAB.out.2, if_neg hd]
                clear HAB hd
                refine (parse_any F s _ (by exact hF) (by omega)).mono ?_
                rintro e w1 ⟨he1, hb1⟩
                rw [HA.out] at he1
                obtain ⟨p1, he1⟩ := he1
                subst he1
                have hF1 := answers_below hF (show Below w.heap.size w w1 from ⟨hb1.os, hb1.tape, hb1.output, hb1.size, hb1.block⟩)
                go_wp2_with fail
                refine (parse_any F t _ (by exact hF1) (by omega)).mono ?_
                rintro e2 w2 ⟨he2, hb2⟩
                rw [HB.out] at he2
                obtain ⟨p2, he2⟩ := he2
                subst he2
                obtain ⟨c0, c1, hz, hb2'⟩ := cells26 hb2
                have HBB2 : Hid (Below w.heap.size w w2) := show Below _ _ _ from (show Below w.heap.size w w1 from ⟨hb1.os, hb1.tape, hb1.output, hb1.size, hb1.block⟩).trans (hb2'.mono hb1.size)
                clear hb2 hb2' hb1 HA HB
                have hz2 : w.heap.size ≤ w2.heap.size := HBB2.out.size
                go_wp2
                go_quiet (fail)
                go_wp2
                go_ret
                exact ⟨rfl, below_drewN' (HBB2.out.alloc hz2 _)⟩

end Go.Proofs.Qxb6630151aFmt
