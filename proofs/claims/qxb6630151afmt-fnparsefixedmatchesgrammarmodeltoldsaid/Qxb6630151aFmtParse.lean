/-
  Seat b6630151aF: the walk of input.ParseFixed.
-/
import Derived.Test.Qxb6630151aFmtBase
namespace Go.Proofs.Qxb6630151aFmt
open Go.RowKit Go.Extern.Stop Go.Stop Go.Extern

/-- How ParseFixed's call ends. -/
def Ends (e : Ending) : Option (Option (Int × Int)) → Prop
  | none => ∃ p, e = .returned (.tuple #[.agg #[.int .i64 0, .int .i32 0], .bool false, .iface 36 (.pointer (some p))])
  | some none => e = .returned (.tuple #[.agg #[.int .i64 0, .int .i32 0], .bool false, .nilIface])
  | some (some (c, p)) => e = .returned (.tuple #[.agg #[.int .i64 c, .int .i32 p], .bool true, .nilIface])

/-- What the loop knows at index k. -/
def Inv (L : List Int) (k : Nat) (C : Int) (n : Nat) (wh : Int) : Prop :=
  ∃ v : Int, (n ≤ 18 → C = v ∧ v < 10 ^ n) ∧ 0 ≤ v ∧ Plain.run 0 Plain.st0 L = Plain.run k ⟨v, n, wh⟩ (L.drop k)

theorem pow_le18 (n : Nat) (h : n ≤ 17) : (10 : Int) ^ n ≤ 100000000000000000 := by
  have : (10 : Int) ^ n ≤ 10 ^ 17 := by exact_mod_cast Nat.pow_le_pow_right (by omega) h
  simpa using this
theorem inv_unfold {L : List Int} {k : Nat} {b : Int} (hk : k < L.length) (hb : L.getD k 0 = b) (st : Plain.St) : Plain.run k st (L.drop k) = match Plain.step k st b with | none => none | some st' => Plain.run (k + 1) st' (L.drop (k + 1)) := by
  rw [List.drop_eq_getElem_cons hk]
  have : L[k] = b := by rw [← hb]; simp [hk]
  rw [this]
  rfl
theorem inv_digit {L : List Int} {k n : Nat} {C wh b : Int} (h : Inv L k C n wh) (hk : k < L.length) (hb : L.getD k 0 = b) (h1 : 48 ≤ b) (h2 : b ≤ 57) :
    Inv L (k + 1) (wrap64 (wrap64 (C * 10) + (b - 48))) (n + 1) wh := by
  obtain ⟨v, hv, h0, hr⟩ := h
  refine ⟨v * 10 + (b - 48), fun hn => ?_, by omega, ?_⟩
  · obtain ⟨rfl, hlt⟩ := hv (by omega)
    have hp := pow_le18 n (by omega)
    rw [IntWalk.wrap64_in (C * 10) (by omega), IntWalk.wrap64_in (C * 10 + (b - 48)) (by omega)]
    refine ⟨rfl, ?_⟩
    rw [Int.pow_succ]
    omega
  · rw [hr, inv_unfold hk hb]
    have : Plain.isDig b = true := (Plain.isDig_iff b).2 ⟨h1, h2⟩
    simp [Plain.step, this]
theorem inv_dot {L : List Int} {k n : Nat} {C wh b : Int} (h : Inv L k C n wh) (hk : k < L.length) (hb : L.getD k 0 = b) (h1 : b = 46) (h2 : wh < 0) (h3 : 0 < n) : Inv L (k + 1) C n n := by
  obtain ⟨v, hv, h0, hr⟩ := h
  refine ⟨v, hv, h0, ?_⟩
  rw [hr, inv_unfold hk hb]
  subst h1
  have : Plain.isDig 46 = false := by decide
  simp [Plain.step, this, h2, h3]
theorem inv_dash {L : List Int} {k n : Nat} {C wh b : Int} (h : Inv L k C n wh) (hk : k < L.length) (hb : L.getD k 0 = b) (h1 : b = 45) (h2 : k = 0) : Inv L (k + 1) C n wh := by
  obtain ⟨v, hv, h0, hr⟩ := h
  refine ⟨v, hv, h0, ?_⟩
  rw [hr, inv_unfold hk hb]
  subst h1
  have : Plain.isDig 45 = false := by decide
  simp [Plain.step, this, h2]
theorem inv_err {L : List Int} {k n : Nat} {C wh b : Int} (h : Inv L k C n wh) (hk : k < L.length) (hb : L.getD k 0 = b) (h1 : ¬ (48 ≤ b ∧ b ≤ 57)) (h2 : ¬ (b = 46 ∧ wh < 0 ∧ 0 < n)) (h3 : ¬ (b = 45 ∧ k = 0)) : Plain.parse L = none := by
  obtain ⟨v, hv, h0, hr⟩ := h
  have : Plain.isDig b = false := (Plain.isDig_not b).2 h1
  have hs : Plain.step k ⟨v, n, wh⟩ b = none := by simp [Plain.step, this, h2, h3]
  rw [inv_unfold hk hb, hs] at hr
  simp [Plain.parse, hr]

theorem not45 {k : Nat} {b : Int} (h : ((k : Int) == 0) = false) : ¬ (b = 45 ∧ k = 0) := by
  simp at h; omega
/-- Cells that a call above has left alone. -/
theorem bcell {B : Nat} {W w1 : World} (hb : Below B W w1) : (∀ b o, b < B → w1.cell? ⟨b, o, none⟩ = W.cell? ⟨b, o, none⟩) ∧ (∀ b o, b < B → w1.frozen? ⟨b, o, none⟩ = W.frozen? ⟨b, o, none⟩) :=
  ⟨fun b o h => hb.cell (p := ⟨b, o, none⟩) h, fun b o h => hb.frozen (p := ⟨b, o, none⟩) h⟩

theorem res_cells {w w1 : World} (hb : Below (w.alloc (.cells #[.int .i64 0, .int .i32 0] 26)).heap.size (w.alloc (.cells #[.int .i64 0, .int .i32 0] 26)) w1) :
    w1.cell? ⟨w.heap.size, 0, none⟩ = some (.int .i64 0) ∧ w1.cell? ⟨w.heap.size, 1, none⟩ = some (.int .i32 0) ∧ w1.frozen? ⟨w.heap.size, 0, none⟩ = false ∧ w1.frozen? ⟨w.heap.size, 1, none⟩ = false ∧
      Below w.heap.size w w1 ∧ w.heap.size < w1.heap.size := by
  have hs := hb.size
  simp at hs
  refine ⟨(hb.cell (by simp)).trans (by simp), (hb.cell (by simp)).trans (by simp), (hb.frozen (by simp)).trans (by simp), (hb.frozen (by simp)).trans (by simp), ?_, by omega⟩
  exact ((Below.refl _ _).alloc (Nat.le_refl _) _).trans (hb.mono (by simp))

set_option maxHeartbeats 2000000 in
set_option maxRecDepth 100000 in
theorem parse_any (F : Interp) (s : ByteArray) (w : World) (hF : F.answers w.tape) (hs : s.size ≤ 2000000) :
    Calls Tryf.prog 7 #[.string s] w fun e w' => Ends e (Plain.parse (bs s)) ∧ Below w.heap.size w w' := by
  go_enter Tryf.func7, Tryf.ntmps7
  go_wp2
  go_loopg [5, 6, 7, 13] s.size (fun g c n wh i wr => ∃ (k n' : Nat) (C wh' : Int), k ≤ s.size ∧ g = s.size - k ∧ i = .int .i64 k ∧ c = .int .i64 C ∧ n = .int .i64 (n' : Int) ∧ wh = .int .i64 wh' ∧ n' ≤ k ∧ -1 ≤ wh' ∧ wh' ≤ n' ∧ Hid (Inv (bs s) k C n' wh') ∧ w.alloc (.cells #[.int .i64 0, .int .i32 0] 26) = wr)
  case atStart => exact ⟨0, 0, 0, -1, by omega, by omega, rfl, rfl, rfl, rfl, by omega, by omega, by omega, ⟨0, fun _ => ⟨rfl, by decide⟩, by omega, rfl⟩, rfl⟩
  case round =>
    obtain ⟨k, n, C, wh, hk, hg, rfl, rfl, rfl, rfl, hn, hw1, hw2, HI, rfl⟩ := hrel
    by_cases hlt : k < s.size
    · have hget := bs_get s k hlt
      have hkl : k < (bs s).length := by rw [bs_length]; exact hlt
      have HK : Hid ((bs s).getD k 0 = (s[k].toNat : Int)) := hget
      clear hget
      go_wp2_with fail
      all_goals first
        | (have d1 : 48 ≤ (s[k].toNat : Int) := by assumption
           have d2 : (s[k].toNat : Int) ≤ 57 := by assumption
           have HN := inv_digit HI.out hkl HK.out d1 d2
           clear HI
           have HH : Hid (Inv _ _ _ _ _) := HN
           clear HN
           go_roundg (s.size - (k + 1))
           case measure => omega
           case rel => exact ⟨k + 1, n + 1, _, wh, by omega, rfl, by go_num, rfl, by go_num, rfl, by omega, by omega, by omega, HH, rfl⟩)
        | (have d1 : (s[k].toNat : Int) = 46 := by assumption
           have d2 : wh < 0 := by assumption
           have d3 : 0 < n := by assumption
           have HN := inv_dot HI.out hkl HK.out d1 d2 d3
           clear HI
           have HH : Hid (Inv _ _ _ _ _) := HN
           clear HN
           go_roundg (s.size - (k + 1))
           case measure => omega
           case rel => exact ⟨k + 1, n, C, n, by omega, rfl, by go_num, rfl, rfl, rfl, by omega, by omega, by omega, HH, rfl⟩)
        | (have d1 : (s[k].toNat : Int) = 45 := by assumption
           have d2 : ((k : Int) == 0) = true := by assumption
           have HN := inv_dash HI.out hkl HK.out d1 (by simpa using d2)
           clear HI
           have HH : Hid (Inv _ _ _ _ _) := HN
           clear HN
           go_roundg (s.size - (k + 1))
           case measure => omega
           case rel => exact ⟨k + 1, n, C, wh, by omega, rfl, by go_num, rfl, rfl, rfl, by omega, by omega, by omega, HH, rfl⟩)
        | (have HN : Hid (Plain.parse (bs s) = none) := inv_err HI.out hkl HK.out (by omega) (by omega) (by first | omega | exact not45 (by assumption))
           clear HI HK hkl
           refine (notDecimal_any F s _ (by exact hF)).mono ?_
           rintro e w1 ⟨p, rfl, hb⟩
           obtain ⟨e0, e1, f0, f1, hbb, hsz⟩ := res_cells hb
           clear hb
           have HBB : Hid (Below w.heap.size w w1) := hbb
           clear hbb
           go_wp2
           refine bodyPost_ret (v := .tuple #[.agg #[.int .i64 0, .int .i32 0], .bool false, .iface 36 (.pointer (some p))]) (by simp [results, Tryf.results7, go_sem, e0, e1]) rfl ⟨?_, ?_⟩
           · rw [HN.out]; exact ⟨p, rfl⟩
           · exact (HBB.out.setCell (Nat.le_refl _) _).setCell (Nat.le_refl _) _)
    · obtain rfl : k = s.size := by omega
      obtain ⟨v, hv, h0, hr⟩ := HI.out
      rw [List.drop_of_length_le (by rw [bs_length]; omega)] at hr
      have hr' : Plain.run 0 Plain.st0 (bs s) = some ⟨v, n, wh⟩ := hr
      clear hr HI
      by_cases hn0 : n = 0
      · have HN : Hid (Plain.parse (bs s) = none) := show _ = _ by simp [Plain.parse, hr', hn0]
        have t1 : ((n : Int) == 0) = true := by simp [hn0]
        clear hv h0 hr' hn0
        go_wp2_with fail
        refine (notDecimal_any F s _ (by exact hF)).mono ?_
        rintro e w1 ⟨p, rfl, hb⟩
        obtain ⟨e0, e1, f0, f1, hbb, hsz⟩ := res_cells hb
        clear hb
        have HBB : Hid (Below w.heap.size w w1) := hbb
        clear hbb
        go_wp2
        refine bodyPost_ret (v := .tuple #[.agg #[.int .i64 0, .int .i32 0], .bool false, .iface 36 (.pointer (some p))]) (by simp [results, Tryf.results7, go_sem, e0, e1]) rfl ⟨?_, ?_⟩
        · rw [HN.out]; exact ⟨p, rfl⟩
        · exact (HBB.out.setCell (Nat.le_refl _) _).setCell (Nat.le_refl _) _
      · have t1 : ((n : Int) == 0) = false := by simp; omega
        by_cases hwn : wh = n
        · have HN : Hid (Plain.parse (bs s) = none) := show _ = _ by simp [Plain.parse, hr', hwn]
          have t2 : (wh == (n : Int)) = true := by simp [hwn]
          clear hv h0 hr' hwn
          go_wp2_with fail
          refine (notDecimal_any F s _ (by exact hF)).mono ?_
          rintro e w1 ⟨p, rfl, hb⟩
          obtain ⟨e0, e1, f0, f1, hbb, hsz⟩ := res_cells hb
          clear hb
          have HBB : Hid (Below w.heap.size w w1) := hbb
          clear hbb
          go_wp2
          refine bodyPost_ret (v := .tuple #[.agg #[.int .i64 0, .int .i32 0], .bool false, .iface 36 (.pointer (some p))]) (by simp [results, Tryf.results7, go_sem, e0, e1]) rfl ⟨?_, ?_⟩
          · rw [HN.out]; exact ⟨p, rfl⟩
          · exact (HBB.out.setCell (Nat.le_refl _) _).setCell (Nat.le_refl _) _
        · have t2 : (wh == (n : Int)) = false := by simp [hwn]
          by_cases h18 : 18 < n
          · have HP : Hid (Plain.parse (bs s) = some none) := show _ = _ by simp [Plain.parse, hr', hn0, hwn, h18]
            clear hv h0 hr' hwn
            go_wp2_with fail
            refine bodyPost_ret (v := .tuple #[.agg #[.int .i64 0, .int .i32 0], .bool false, .nilIface]) (by simp [results, Tryf.results7, go_sem]) rfl ⟨?_, ?_⟩
            · rw [HP.out]; exact rfl
            · exact (Below.refl _ _).alloc (Nat.le_refl _) _
          · obtain ⟨rfl, hlt18⟩ := hv (by omega)
            have hp18 : (10 : Int) ^ n ≤ 1000000000000000000 := by
              have : (10 : Int) ^ n ≤ 10 ^ 18 := by exact_mod_cast Nat.pow_le_pow_right (by omega) (show n ≤ 18 by omega)
              simpa using this
            have hC : C < 1000000000000000000 := by omega
            clear hlt18 hp18
            have hpos : 0 < s.size := by omega
            have hb0 := bs_get s 0 hpos
            have HP : Hid (Plain.parse (bs s) = some (some (if (s[0].toNat : Int) = 45 then -C else C, if 0 ≤ wh then n - wh else 0))) := show _ = _ by
              unfold Plain.parse
              rw [hr', hb0]
              simp [hn0, hwn, h18]
            clear hr' hwn hb0
            by_cases hwh : 0 ≤ wh
            · by_cases h45 : (s[0].toNat : Int) = 45
              · have HP2 : Hid (Plain.parse (bs s) = some (some (-C, n - wh))) := show _ = _ by rw [HP.out, if_pos h45, if_pos hwh]
                have t3 : ((s[0].toNat : Int) == 45) = true := by simp [h45]
                clear HP h45
                go_wp2_with fail
                refine bodyPost_ret (v := .tuple #[.agg #[.int .i64 (-C), .int .i32 (n - wh)], .bool true, .nilIface]) (by simp [results, Tryf.results7, go_sem]) rfl ⟨?_, ?_⟩
                · rw [HP2.out]; exact rfl
                · exact ((Below.refl _ _).alloc (Nat.le_refl _) _).alloc (by simp) _
              · have HP2 : Hid (Plain.parse (bs s) = some (some (C, n - wh))) := show _ = _ by rw [HP.out, if_neg h45, if_pos hwh]
                have t3 : ((s[0].toNat : Int) == 45) = false := by simp [h45]
                clear HP h45
                go_wp2_with fail
                refine bodyPost_ret (v := .tuple #[.agg #[.int .i64 (C), .int .i32 (n - wh)], .bool true, .nilIface]) (by simp [results, Tryf.results7, go_sem]) rfl ⟨?_, ?_⟩
                · rw [HP2.out]; exact rfl
                · exact ((Below.refl _ _).alloc (Nat.le_refl _) _).alloc (by simp) _
            · by_cases h45 : (s[0].toNat : Int) = 45
              · have HP2 : Hid (Plain.parse (bs s) = some (some (-C, 0))) := show _ = _ by rw [HP.out, if_pos h45, if_neg hwh]
                have t3 : ((s[0].toNat : Int) == 45) = true := by simp [h45]
                clear HP h45
                go_wp2_with fail
                refine bodyPost_ret (v := .tuple #[.agg #[.int .i64 (-C), .int .i32 (0)], .bool true, .nilIface]) (by simp [results, Tryf.results7, go_sem]) rfl ⟨?_, ?_⟩
                · rw [HP2.out]; exact rfl
                · exact ((Below.refl _ _).alloc (Nat.le_refl _) _).alloc (by simp) _
              · have HP2 : Hid (Plain.parse (bs s) = some (some (C, 0))) := show _ = _ by rw [HP.out, if_neg h45, if_neg hwh]
                have t3 : ((s[0].toNat : Int) == 45) = false := by simp [h45]
                clear HP h45
                go_wp2_with fail
                refine bodyPost_ret (v := .tuple #[.agg #[.int .i64 (C), .int .i32 (0)], .bool true, .nilIface]) (by simp [results, Tryf.results7, go_sem]) rfl ⟨?_, ?_⟩
                · rw [HP2.out]; exact rfl
                · exact ((Below.refl _ _).alloc (Nat.le_refl _) _).alloc (by simp) _

end Go.Proofs.Qxb6630151aFmt
