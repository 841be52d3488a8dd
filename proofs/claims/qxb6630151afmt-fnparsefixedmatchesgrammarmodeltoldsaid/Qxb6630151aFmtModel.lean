/-
  Seat b6630151aF: the walk of zzFixedModel.
-/
import Derived.Test.Qxb6630151aFmtParse
import Derived.Test.Qxb6630151aFmtModelLaw
import Derived.Lib.IndexBytes
import Derived.Deep.CutBlock
namespace Go.Proofs.Qxb6630151aFmt
open Go.RowKit Go.Extern.Stop Go.Stop Go.Extern

theorem mstart_at (s : ByteArray) (h : 0 < s.size) : Plain.start (bs s) = if (s[0].toNat : Int) = 45 then 1 else 0 := by
  unfold Plain.start; rw [bs_get s 0 h]
theorem mstart_nil (s : ByteArray) (h : ¬ 0 < s.size) : Plain.start (bs s) = 0 := by
  have : bs s = [] := List.eq_nil_of_length_eq_zero (by rw [bs_length]; omega)
  rw [this]; rfl
theorem mbs_head (s : ByteArray) (k : Nat) : bs (s.extract 0 k) = (bs s).take k := by
  unfold bs; rw [Lib.extract_data, List.drop_zero, Nat.sub_zero, List.map_take]
theorem mbs_tail (s : ByteArray) (k : Nat) : bs (s.extract k s.size) = (bs s).drop k := by
  unfold bs; rw [Lib.extract_to_end, List.map_drop]
theorem mmem_take_snoc {P : Int → Prop} {L : List Int} {k : Nat} (hk : k < L.length) (h : ∀ x ∈ L.take k, P x) (hb : P (L.getD k 0)) : ∀ x ∈ L.take (k + 1), P x := by
  rw [Plain.take_snoc L k hk]
  intro x hx
  rcases List.mem_append.1 hx with h1 | h1
  · exact h x h1
  · simp only [List.mem_singleton] at h1; rw [h1]; exact hb

theorem size_head (s : ByteArray) (k : Nat) (h : k ≤ s.size) : (s.extract 0 k).size = k := by
  have := congrArg List.length (mbs_head s k)
  rw [bs_length, List.length_take, bs_length] at this
  omega
theorem size_tail (s : ByteArray) (k : Nat) : (s.extract k s.size).size = s.size - k := by
  have := congrArg List.length (mbs_tail s k)
  rw [bs_length, List.length_drop, bs_length] at this
  omega

theorem valid_eq {P Q : List Int} {dd : Int} {a b : Nat} (ha : P.length = a) (hb : Q.length = b) : Plain.valid P Q dd = (decide (0 < a) && Plain.digs P && Plain.digs Q && (decide (dd < 0) || decide (0 < b))) := by
  subst ha; subst hb; rfl

theorem mbs_append (a b : ByteArray) : bs (a ++ b) = bs a ++ bs b := by
  simp [bs]

theorem digs_drop {L : List Int} (h : Plain.digs L = true) (j : Nat) : Plain.digs (L.drop j) = true := by
  unfold Plain.digs at *
  rw [List.all_eq_true] at *
  exact fun x hx => h x (List.mem_of_mem_drop hx)

/-- One round of the sum from the right: nothing wraps. -/
theorem sum_step (A : List Int) (j : Nat) (hn : A.length ≤ 18) (hj : j < A.length) (hd : Plain.digs A = true) :
    wrap64 ((10 : Int) ^ (A.length - (j + 1)) * 10) = 10 ^ (A.length - j) ∧ wrap64 (Plain.val 0 (A.drop (j + 1)) + wrap64 ((A.getD j 0 - 48) % 256 * 10 ^ (A.length - (j + 1)))) = Plain.val 0 (A.drop j) := by
  have hp : (10 : Int) ^ (A.length - j) = 10 ^ (A.length - (j + 1)) * 10 := by
    rw [← Int.pow_succ]; congr 1; omega
  have hp17 : (10 : Int) ^ (A.length - (j + 1)) ≤ 100000000000000000 := pow_le18 _ (by omega)
  have hp0 : (0 : Int) < 10 ^ (A.length - (j + 1)) := Int.pow_pos (by omega)
  have hb : 48 ≤ A.getD j 0 ∧ A.getD j 0 ≤ 57 := by
    rw [← Plain.isDig_iff]
    unfold Plain.digs at hd
    rw [List.all_eq_true] at hd
    apply hd
    rw [List.getD_eq_getElem?_getD, List.getElem?_eq_getElem hj]
    exact List.getElem_mem hj
  have hv := Plain.val_bd (A.drop j) (digs_drop hd j)
  have hv2 := Plain.val_bd (A.drop (j + 1)) (digs_drop hd (j + 1))
  have hr := Plain.val_round A j hj
  rw [List.length_drop] at hv hv2
  rw [hp] at hv
  have hm : (A.getD j 0 - 48) % 256 = A.getD j 0 - 48 := by omega
  refine ⟨?_, ?_⟩
  · rw [hp, IntWalk.wrap64_in _ (by omega)]
  · rw [hm]
    generalize (A.getD j 0 - 48) * 10 ^ (A.length - (j + 1)) = X at hr ⊢
    rw [IntWalk.wrap64_in X (by omega), IntWalk.wrap64_in _ (by omega), hr]

/-- How the model's call ends. -/
def ModelEnds (e : Ending) (r : Option (Option (Int × Int))) : Prop :=
  ∃ (vv : Bool) (dg cf pl : Int), e = .returned (.tuple #[.bool vv, .int .i64 dg, .int .i64 cf, .int .i32 pl]) ∧
    Hid ((vv = false ∧ r = none) ∨ (vv = true ∧ 18 < dg ∧ r = some none) ∨ (vv = true ∧ dg ≤ 18 ∧ r = some (some (cf, pl))))

set_option maxHeartbeats 2000000 in
set_option maxRecDepth 100000 in
theorem model_any (s : ByteArray) (w : World) (hs : s.size ≤ 2000000) :
    Calls Tryf.prog 6 #[.string s] w fun e w' => ModelEnds e (Plain.parse (bs s)) ∧ w = w' := by
  obtain ⟨st, hst⟩ : ∃ st, st = Plain.start (bs s) := ⟨_, rfl⟩
  have hst1 : st ≤ 1 := by rw [hst]; unfold Plain.start; split <;> omega
  have hst2 : st ≤ s.size := by rw [hst]; have := Plain.start_le (bs s); rw [bs_length] at this; exact this
  have HST : Hid (st = Plain.start (bs s)) := hst
  clear hst
  go_enter Tryf.func6, Tryf.ntmps6
  go_upto_region 2 with fail
  go_cut [23] (fun z wc => w = wc ∧ ∃ b : Bool, z = .bool b ∧ Hid (b = true ↔ st = 1))
  case first =>
    by_cases hpos : 0 < s.size
    · have hst' := mstart_at s hpos
      by_cases h45 : (s[0].toNat : Int) = 45
      · have t1 : ((s[0].toNat : Int) == 45) = true := by simp [h45]
        have hs1 : st = 1 := by rw [HST.out, hst', if_pos h45]
        have HS1 : Hid (st = 1) := hs1
        clear hst' h45 hs1
        go_wp2
        go_meet
        exact ⟨rfl, _, rfl, show _ ↔ _ by simp [HS1.out]⟩
      · have t1 : ((s[0].toNat : Int) == 45) = false := by simp [h45]
        have hs1 : st = 0 := by rw [HST.out, hst', if_neg h45]
        have HS1 : Hid (st = 0) := hs1
        clear hst' h45 hs1
        go_wp2
        go_meet
        exact ⟨rfl, _, rfl, show _ ↔ _ by simp [HS1.out]⟩
    · have hs1 : st = 0 := by rw [HST.out, mstart_nil s hpos]
      have HS1 : Hid (st = 0) := hs1
      have hd : decide ((0 : Int) < (s.size : Int)) = false := decide_eq_false (by omega)
      clear hs1
      go_wp2
      go_meet
      exact ⟨rfl, _, rfl, show _ ↔ _ by simp [HS1.out]⟩
  case rest =>
    obtain ⟨rfl, bb, rfl, HBB⟩ := hcut
    go_upto_if 23 with fail
    go_cut [6] (fun z wc => w = wc ∧ z = .int .i64 (st : Int))
    case first =>
      cases bb with
      | true =>
        have HS1 : Hid (st = 1) := HBB.out.1 rfl
        clear HBB
        go_wp2
        go_meet
        exact ⟨rfl, by rw [HS1.out]; rfl⟩
      | false =>
        have HS1 : Hid (st = 0) := show _ = _ by
          have h : ¬ st = 1 := fun h => by have := HBB.out.2 h; cases this
          omega
        clear HBB
        go_wp2
        go_meet
        exact ⟨rfl, by rw [HS1.out]; rfl⟩
    case rest =>
      obtain ⟨rfl, rfl⟩ := hcut
      clear HBB
      go_upto_block 0 with fail
      have hbt := mbs_tail s st
      generalize s.extract st s.size = bd at hbt ⊢
      have hbl : bd.size ≤ 2000000 := by have := congrArg List.length hbt; rw [bs_length] at this; simp [bs_length] at this; omega
      have HBT : Hid (bs bd = (bs s).drop st) := hbt
      clear hbt
      go_cut [8, 9] (fun d i wc => w = wc ∧ ∃ dd : Int, d = .int .i64 dd ∧ -1 ≤ dd ∧ dd < 2000000 ∧ Hid ((dd = -1 ∧ ∀ x ∈ bs bd, x ≠ 46) ∨ ∃ j : Nat, dd = (j : Int) ∧ j < bd.size ∧ (bs bd).getD j 0 = 46 ∧ ∀ x ∈ (bs bd).take j, x ≠ 46))
      case first =>
        go_wp2
        go_loopg [8, 9] bd.size (fun g d i wr => ∃ k : Nat, k ≤ bd.size ∧ g = bd.size - k ∧ d = .int .i64 (-1) ∧ i = .int .i64 k ∧ w = wr ∧ Hid (∀ x ∈ (bs bd).take k, x ≠ 46))
        case atStart => exact ⟨0, by omega, by omega, rfl, rfl, rfl, show ∀ x ∈ _, _ by simp⟩
        case round =>
          obtain ⟨k, hk, hg, rfl, rfl, rfl, HD⟩ := hrel
          by_cases hlt : k < bd.size
          · have hget := bs_get bd k hlt
            have hkl : k < (bs bd).length := by rw [bs_length]; exact hlt
            by_cases hd : (bd[k].toNat : Int) = 46
            · have t1 : ((bd[k].toNat : Int) == 46) = true := by simp [hd]
              have HG : Hid ((bs bd).getD k 0 = 46) := by rw [hget]; exact hd
              clear hd hget
              go_wp2
              go_meet
              exact ⟨rfl, k, rfl, by omega, by omega, .inr ⟨k, rfl, hlt, HG.out, HD.out⟩⟩
            · have HN : Hid (∀ x ∈ (bs bd).take (k + 1), x ≠ 46) := mmem_take_snoc hkl HD.out (by rw [hget]; exact hd)
              have t1 : ((bd[k].toNat : Int) == 46) = false := by simp [hd]
              clear hd hget HD
              go_wp2
              go_roundg (bd.size - (k + 1))
              case measure => omega
              case rel => exact ⟨k + 1, by omega, rfl, rfl, by go_num, rfl, HN⟩
          · have HN : Hid (∀ x ∈ bs bd, x ≠ 46) := by
              have h := HD.out
              rw [List.take_of_length_le (by rw [bs_length]; omega)] at h
              exact h
            clear HD
            go_wp2
            go_meet
            exact ⟨rfl, -1, rfl, by omega, by omega, .inl ⟨rfl, HN.out⟩⟩
      case rest =>
        obtain ⟨rfl, dd, rfl, hd1, hd2, HDD⟩ := hcut
        go_upto_if 40 with fail
        go_cut [10, 11] (fun p q wc => w = wc ∧ ∃ ip fr : ByteArray, p = .string ip ∧ q = .string fr ∧ ip.size ≤ 2000000 ∧ fr.size ≤ 2000000 ∧ ip.size + fr.size ≤ 2000000 ∧ Hid (Plain.Cut (bs s) (bs ip) (bs fr) dd))
        case first =>
          by_cases hdd : 0 ≤ dd
          · obtain ⟨j, rfl, hjb, hj46, hjn⟩ : ∃ j : Nat, dd = (j : Int) ∧ j < bd.size ∧ (bs bd).getD j 0 = 46 ∧ ∀ x ∈ (bs bd).take j, x ≠ 46 := by
              rcases HDD.out with h | h
              · omega
              · exact h
            have HJ : Hid ((bs bd).getD j 0 = 46 ∧ ∀ x ∈ (bs bd).take j, x ≠ 46) := ⟨hj46, hjn⟩
            clear HDD hj46 hjn
            clear hd1 hd2
            go_wp2
            go_meet
            have z1 := size_head bd j (by omega)
            have z2 := size_tail bd (j + 1)
            refine ⟨rfl, _, _, rfl, rfl, by omega, by omega, by omega, .inr ⟨?_, ?_, ?_⟩⟩
            · rw [bs_length, z1]
            · rw [mbs_head, mbs_tail, ← HST.out, ← HBT.out]
              have h := List.take_append_drop j (bs bd)
              rw [List.drop_eq_getElem_cons (show j < (bs bd).length by rw [bs_length]; exact hjb)] at h
              have h2 : (bs bd)[j]'(by rw [bs_length]; exact hjb) = 46 := by rw [← HJ.out.1]; simp [bs_length, hjb]
              rw [h2] at h
              exact h.symm
            · rw [mbs_head]; exact HJ.out.2
          · have hn : Hid (dd = -1 ∧ ∀ x ∈ bs bd, x ≠ 46) := by
              rcases HDD.out with h | ⟨j, h, _⟩
              · exact h
              · omega
            clear HDD
            go_wp2
            go_meet
            have he : bs { data := #[] } = [] := rfl
            refine ⟨rfl, _, _, rfl, rfl, by omega, Nat.zero_le _, show bd.size + 0 ≤ 2000000 by omega, .inl ⟨hn.out.1, ?_, he, hn.out.2⟩⟩
            rw [← HST.out, ← HBT.out]
        case rest =>
          obtain ⟨rfl, ip, fr, rfl, rfl, hip, hfr, hif, HCut⟩ := hcut
          clear HDD
          go_upto_region 16 with fail
          go_cut [2] (fun z wc => w = wc ∧ ∃ vv : Bool, z = .bool vv ∧ Hid (vv = Plain.valid (bs ip) (bs fr) dd))
          case first =>
            have hl1 := bs_length ip
            have hl2 := bs_length fr
            have HL : Hid ((bs ip).length = ip.size ∧ (bs fr).length = fr.size) := ⟨hl1, hl2⟩
            clear hl1 hl2
            by_cases h0 : 0 < ip.size
            · cases hdp : Plain.digs (bs ip) with
              | false =>
                go_wp2_with (go_at_call 9; refine (digs_any _ _ (by omega)).mono ?_; rintro e w' ⟨rfl, rfl⟩)
                go_meet
                exact ⟨rfl, _, rfl, show _ = _ by simp [valid_eq HL.out.1 HL.out.2, *]⟩
              | true =>
                cases hdq : Plain.digs (bs fr) with
                | false =>
                  go_wp2_with (go_at_call 9; refine (digs_any _ _ (by omega)).mono ?_; rintro e w' ⟨rfl, rfl⟩)
                  go_meet
                  exact ⟨rfl, _, rfl, show _ = _ by simp [valid_eq HL.out.1 HL.out.2, *]⟩
                | true =>
                  by_cases hneg : dd < 0
                  · have hnd : decide (dd < 0) = true := decide_eq_true hneg
                    go_wp2_with (go_at_call 9; refine (digs_any _ _ (by omega)).mono ?_; rintro e w' ⟨rfl, rfl⟩)
                    go_meet
                    exact ⟨rfl, _, rfl, show _ = _ by simp [valid_eq HL.out.1 HL.out.2, *]⟩
                  · have hnd : decide (dd < 0) = false := decide_eq_false hneg
                    by_cases hq0 : 0 < fr.size
                    · have hq1 : decide ((0 : Int) < (fr.size : Int)) = true := decide_eq_true (by omega)
                      go_wp2_with (go_at_call 9; refine (digs_any _ _ (by omega)).mono ?_; rintro e w' ⟨rfl, rfl⟩)
                      go_meet
                      exact ⟨rfl, _, rfl, show _ = _ by simp [valid_eq HL.out.1 HL.out.2, *]⟩
                    · have hq1 : decide ((0 : Int) < (fr.size : Int)) = false := decide_eq_false (by omega)
                      go_wp2_with (go_at_call 9; refine (digs_any _ _ (by omega)).mono ?_; rintro e w' ⟨rfl, rfl⟩)
                      go_meet
                      exact ⟨rfl, _, rfl, show _ = _ by simp [valid_eq HL.out.1 HL.out.2, *]⟩
            · have hp1 : decide ((0 : Int) < (ip.size : Int)) = false := decide_eq_false (by omega)
              go_wp2_with (go_at_call 9; refine (digs_any _ _ (by omega)).mono ?_; rintro e w' ⟨rfl, rfl⟩)
              go_meet
              exact ⟨rfl, _, rfl, show _ = _ by simp [valid_eq HL.out.1 HL.out.2, *]⟩
          case rest =>
            obtain ⟨rfl, vv, rfl, HV⟩ := hcut
            have HM : Hid (Plain.parse (bs s) = if vv then (if 18 < ip.size + fr.size then some none else some (some (Plain.sgn (bs s) (Plain.val 0 (bs (ip ++ fr))), (fr.size : Int)))) else none) := show _ = _ by
              have h := Plain.model_law (bs s) (bs ip) (bs fr) dd HCut.out
              rw [← HV.out, bs_length, bs_length, ← mbs_append] at h
              exact h
            have HDG : Hid (vv = true → Plain.digs (bs (ip ++ fr)) = true) := show _ → _ from fun h => by
              rw [mbs_append, Plain.digs_append]
              have h2 := HV.out
              rw [h] at h2
              simp [Plain.valid] at h2
              simp [h2]
            clear HCut HV
            cases vv with
            | false =>
              have HP : Hid (Plain.parse (bs s) = none) := show _ = _ by rw [HM.out]; rfl
              clear HM HDG
              go_wp2
              exact bodyPost_ret (v := .tuple #[.bool false, .int .i64 ((ip.size : Int) + (fr.size : Int)), .int .i64 0, .int .i32 0]) (by simp [results, Tryf.results6, go_sem]) rfl ⟨⟨_, _, _, _, rfl, .inl ⟨rfl, HP.out⟩⟩, rfl⟩
            | true =>
              by_cases h18 : 18 < ip.size + fr.size
              · have HP : Hid (Plain.parse (bs s) = some none) := show _ = _ by rw [HM.out, if_pos rfl, if_pos h18]
                clear HM HDG
                go_wp2
                exact bodyPost_ret (v := .tuple #[.bool true, .int .i64 ((ip.size : Int) + (fr.size : Int)), .int .i64 0, .int .i32 0]) (by simp [results, Tryf.results6, go_sem]) rfl ⟨⟨_, _, _, _, rfl, .inr (.inl ⟨rfl, by omega, HP.out⟩)⟩, rfl⟩
              · have HP : Hid (Plain.parse (bs s) = some (some (Plain.sgn (bs s) (Plain.val 0 (bs (ip ++ fr))), (fr.size : Int)))) := show _ = _ by rw [HM.out, if_pos rfl, if_neg h18]
                have HDD : Hid (Plain.digs (bs (ip ++ fr)) = true) := HDG.out rfl
                have hal : (ip ++ fr).size = ip.size + fr.size := ByteArray.size_append
                clear HM HDG
                go_wp2
                generalize ip ++ fr = al at HP HDD hal ⊢
                have ha1 : al.size ≤ ip.size + fr.size := by omega
                have ha2 : ip.size + fr.size ≤ al.size := by omega
                have hvb := Plain.val_bd
                clear hal
                have HVB : Hid (∀ j, 0 ≤ Plain.val 0 ((bs al).drop j) ∧ Plain.val 0 ((bs al).drop j) < 10 ^ (al.size - j)) := show ∀ j, _ from fun j => by
                  have h := Plain.val_bd ((bs al).drop j) (digs_drop HDD.out j)
                  rw [List.length_drop, bs_length] at h
                  exact h
                clear hvb
                go_loop [13, 14, 15] (fun p c i => ∃ pp cc t : Int, p = .int .i64 pp ∧ c = .int .i64 cc ∧ i = .int .i64 t ∧ -1 ≤ t ∧ t < al.size ∧ Hid (pp = 10 ^ (al.size - (t + 1).toNat) ∧ cc = Plain.val 0 ((bs al).drop (t + 1).toNat))) (fun _ _ i => (intOf i + 1).toNat)
                case atStart =>
                  refine ⟨1, 0, (ip.size : Int) + (fr.size : Int) - 1, rfl, rfl, rfl, by omega, by omega, ?_, ?_⟩
                  · rw [show al.size - ((ip.size : Int) + (fr.size : Int) - 1 + 1).toNat = 0 by omega]; rfl
                  · rw [List.drop_of_length_le (by rw [bs_length]; omega)]; rfl
                case round =>
                  obtain ⟨pp, cc, t, rfl, rfl, rfl, ht1, ht2, HR⟩ := hrel
                  by_cases ht : 0 ≤ t
                  · obtain ⟨j, rfl⟩ : ∃ j : Nat, t = (j : Int) := ⟨t.toNat, by omega⟩
                    have hj : j < al.size := by omega
                    have hget := bs_get al j hj
                    have hst := sum_step (bs al) j (by rw [bs_length]; omega) (by rw [bs_length]; exact hj) HDD.out
                    rw [hget, bs_length] at hst
                    have HS : Hid (_ ∧ _) := hst
                    clear hst hget
                    go_wp2
                    go_round
                    case rel =>
                      refine ⟨_, _, (j : Int) - 1, rfl, rfl, rfl, by omega, by omega, ?_, ?_⟩
                      · rw [HR.out.1, show ((j : Int) + 1).toNat = j + 1 by omega, HS.out.1, show ((j : Int) - 1 + 1).toNat = j by omega]
                      · rw [HR.out.1, HR.out.2, show ((j : Int) + 1).toNat = j + 1 by omega, HS.out.2, show ((j : Int) - 1 + 1).toNat = j by omega]
                    case measure => simp [intOf]
                  · obtain rfl : t = -1 := by omega
                    have hc : cc = Plain.val 0 (bs al) := by rw [HR.out.2]; rfl
                    have hvb := HVB.out 0
                    rw [List.drop_zero, ← hc] at hvb
                    have hp18 : (10 : Int) ^ (al.size - 0) ≤ 1000000000000000000 := by
                      have : (10 : Int) ^ (al.size - 0) ≤ 10 ^ 18 := by exact_mod_cast Nat.pow_le_pow_right (by omega) (show al.size - 0 ≤ 18 by omega)
                      simpa using this
                    have hc1 : 0 ≤ cc := hvb.1
                    have hc2 : cc < 1000000000000000000 := by omega
                    rw [← hc] at HP
                    clear hvb hp18 HVB HR hc
                    by_cases h1 : st = 1
                    · have HPP : Hid (Plain.parse (bs s) = some (some (-cc, (fr.size : Int)))) := show _ = _ by rw [HP.out, Plain.sgn, if_pos (by rw [← HST.out]; exact h1)]
                      have t1 : ((st : Int) == 1) = true := by simp [h1]
                      clear HP h1
                      go_wp2
                      exact bodyPost_ret (v := .tuple #[.bool true, .int .i64 ((ip.size : Int) + (fr.size : Int)), .int .i64 (-cc), .int .i32 (fr.size : Int)]) (by simp [results, Tryf.results6, go_sem]) rfl ⟨⟨_, _, _, _, rfl, .inr (.inr ⟨rfl, by omega, HPP.out⟩)⟩, rfl⟩
                    · have HPP : Hid (Plain.parse (bs s) = some (some (cc, (fr.size : Int)))) := show _ = _ by rw [HP.out, Plain.sgn, if_neg (by rw [← HST.out]; exact h1)]
                      have t1 : ((st : Int) == 1) = false := by simp; omega
                      clear HP h1
                      go_wp2
                      exact bodyPost_ret (v := .tuple #[.bool true, .int .i64 ((ip.size : Int) + (fr.size : Int)), .int .i64 cc, .int .i32 (fr.size : Int)]) (by simp [results, Tryf.results6, go_sem]) rfl ⟨⟨_, _, _, _, rfl, .inr (.inr ⟨rfl, by omega, HPP.out⟩)⟩, rfl⟩

end Go.Proofs.Qxb6630151aFmt
