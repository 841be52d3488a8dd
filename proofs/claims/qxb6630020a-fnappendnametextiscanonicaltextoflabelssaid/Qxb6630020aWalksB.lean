/-
  Seat b6630020a: the walk of dnsmsg.AppendNameText.
-/
import Derived.Test.Qxb6630020aWalksA
namespace Go.Proofs.Qxb6630020a
open Go.RowKit

/-- What one append does to what is owned. -/
theorem app_rel {B : Nat} {w wr w1 : World} {dst v' : Value} {D news : List Int} {m : Nat} {o : Obj} (hm : news.length = m) (hbel : Below B w wr) (hB : B ≤ wr.heap.size)
    (hown : wr.ownsRow B 5 1 dst D.length (U8 D)) (hown' : w1.ownsRow B 5 1 v' (D.length + m) (U8 D ++ U8 news)) (hgrow : (wr.alloc o).grownBy w1 dst.ownBlock) :
    w1.ownsRow B 5 1 v' (D ++ news).length (U8 (D ++ news)) ∧ Below B w w1 := by
  subst hm
  refine ⟨by simpa [U8] using hown', (hbel.alloc hB o).grown hgrow (by simp; omega) (fun j hj => (hown.lt j hj).1)⟩

theorem news_at (wr : World) (cs : List Value) (e : TypeId) : ∀ j u, cs[j]? = some u → (wr.alloc (.cells cs.toArray e)).cell? ((⟨wr.heap.size, 0, none⟩ : Addr).add j) = some u := by
  intro j u h
  rw [Addr.add_lit]
  simp [h]

/-- 'dst = append(dst, ..)' at bytes, whatever is appended, as one step of the walk. -/
theorem wpList_app8 {w wr : World} {ops : Array Oper} {rest : List Oper} {o : Oper} {a : Act} {Q : Exit → Act → World → Prop} (hgd : o.guard = none) (s x : Operand)
    (ho : o.op = .call { callee := .builtin .append, args := #[s, x], argTypes := #[22, 22] }) {B : Nat} {dst : Value} {D : List Int} (news : List Int) (cs : List Value) (hcs : cs = U8 news) (m : Nat) (hm : news.length = m)
    (hs : a.eval s = dst) (hx : a.eval x = .slice (some ⟨wr.heap.size, 0, none⟩) m m) (hbel : Below B w wr) (hB : B ≤ wr.heap.size) (hown : wr.ownsRow B 5 1 dst D.length (U8 D)) (hD : D.length + m ≤ 1000000000)
    (h : ∀ v' w', w'.ownsRow B 5 1 v' (D ++ news).length (U8 (D ++ news)) → Below B w w' → wpList Try.prog ops Q rest (a.put o.dst v') w') :
    wpList Try.prog ops Q (o :: rest) a (wr.alloc (.cells cs.toArray 5)) := by
  obtain ⟨i0, hi, hz0, hz1, hz2⟩ := info_parts Try.info5
  subst hcs
  refine wpList_append_own _ hgd s x 22 ho B 5 i0 (.int .u8 0) 1 1 Try.underlying22 hi hz0 hz1 hz2 rfl (by decide) dst _ _ hs (hown.alloc _) ⟨wr.heap.size, 0, none⟩ m m (U8 news) hx (by simp [hm]) (news_at _ _ _) (ints_oneCell .u8 news)
    (by unfold maxLen; omega) (by omega) (by simp; omega) fun v' w' hown' hgrow _ => ?_
  have R := app_rel hm hbel hB hown hown' hgrow
  exact h v' w' R.1 R.2

set_option maxHeartbeats 4000000 in
set_option maxRecDepth 100000 in
theorem name_loop (B : Nat) (v : Value) (X : List Int) (b o len cap : Nat) (zs : List Int) (w : World) (hown : w.ownsRow B 5 1 v X.length (U8 X)) (hB : B ≤ w.heap.size) (hb : b < B)
    (hlen : zs.length = len) (hcap : len ≤ cap) (hc : ∀ i, i < zs.length → w.cell? ⟨b, o + i, none⟩ = some (.int .u8 (zs.getD i 0)))
    (hwf : ∀ i, i < zs.length → 0 ≤ zs.getD i 0 ∧ zs.getD i 0 ≤ 255) (hX : X.length ≤ 2000000) (hl : len ≤ 2000000) (hpos : 0 < len) (h0 : zs.getD 0 0 ≠ 0) :
    Calls Try.prog 7 #[v, .slice (some ⟨b, o, none⟩) len cap] w fun e w' => ∃ v', e = .returned v' ∧
      w'.ownsRow B 5 1 v' (X ++ Plain.text zs).length (U8 (X ++ Plain.text zs)) ∧ Below B w w' := by
  obtain ⟨i0, hi, hz0, hz1, hz2⟩ := info_parts Try.info5
  have g0 : w.cell? ⟨b, o, none⟩ = some (.int .u8 (zs.getD 0 0)) := by simpa using hc 0 (by omega)
  obtain ⟨c, hcc⟩ : ∃ c, c = zs.getD 0 0 := ⟨_, rfl⟩
  rw [← hcc] at g0 h0
  have HX : Hid (c = zs.getD 0 0) := hcc
  clear hcc
  have hne : (c == 0) = false := by simpa using h0
  have hlen0 : ((len : Int) == 0) = false := by simp; omega
  go_enter Try.func7, Try.ntmps7
  go_wp2
  go_loopg [0, 5] zs.length (fun g dst off wr => ∃ (k : Nat) (D : List Int), off = .int .i64 k ∧ k ≤ len + 256 ∧ wr.ownsRow B 5 1 dst D.length (U8 D) ∧ Below B w wr ∧ Hid (D ++ Plain.txt g (k == 0) (zs.drop k) = X ++ Plain.text zs) ∧ zs.length - k ≤ g)
  case atStart => 
    refine ⟨0, X, rfl, by omega, hown, Below.refl _ _, show _ = _ from ?_, by omega⟩
    rw [show ((0 : Nat) == 0) = true from rfl, Plain.text_loop zs (by omega) (by rw [← HX.out]; exact h0)]
  case round =>
    obtain ⟨k, D, rfl, hk, hownr, hbel, HD, hg⟩ := hrel
    obtain ⟨gq, hgq⟩ : ∃ gq, gq = gk - 1 := ⟨_, rfl⟩
    have hgq1 : gk ≤ gq + 1 := by omega
    have HGQ : Hid (gq = gk - 1) := hgq
    have D_le : D.length ≤ 10000001 := by
      have h1 := congrArg List.length HD.out
      have h2 := Plain.text_le zs
      simp only [List.length_append] at h1
      omega
    by_cases hlt : k < len
    · by_cases hz : zs.getD k 0 = 0
      · have g1 : wr.cell? ⟨b, o + k, none⟩ = some (.int .u8 0) := (hbel.cell hb).trans (by rw [hc k (by omega), hz])
        have HD1 : Hid (D = X ++ Plain.text zs) := show _ = _ by have h := HD.out; rw [Plain.txt_stop zs k gk (.inr hz), List.append_nil] at h; exact h
        clear HD hz
        go_wp2
        go_ret
        rw [HD1.out] at hownr
        exact ⟨_, rfl, hownr, hbel⟩
      · obtain ⟨nn, hnn⟩ : ∃ nn : Nat, zs.getD k 0 = (nn : Int) := ⟨(zs.getD k 0).toNat, by have := hwf k (by omega); omega⟩
        have hn1 : 1 ≤ nn := by omega
        have hn2 : nn ≤ 255 := by have := hwf k (by omega); omega
        have g1 : wr.cell? ⟨b, o + k, none⟩ = some (.int .u8 nn) := (hbel.cell hb).trans (by rw [hc k (by omega), hnn])
        have HN : Hid (zs.getD k 0 = (nn : Int)) := hnn
        clear hnn hz hown g0 h0 hne
        obtain ⟨m, hm⟩ : ∃ m, m = min nn (len - (k + 1)) := ⟨_, rfl⟩
        have hm1 : k + 1 + m ≤ len := by omega
        have hm2 : m ≤ nn := by omega
        have hm3 : (m = nn ∨ k + 1 + m = len) := by omega
        have HM : Hid (m = nn ∨ k + 1 + m = len) := hm3
        clear hm
        have hBr : B ≤ wr.heap.size := by have := hbel.size; omega
        have HD0 : Hid (D ++ ((if (k == 0) = true then [] else [46]) ++ (Plain.esc ((zs.drop (k + 1)).take m) ++ Plain.txt gq false (zs.drop (k + 1 + nn)))) = X ++ Plain.text zs) := by
          have h := HD.out
          rw [Plain.txt_round zs k nn m gk (by omega) HN.out hn1 hm2 (by rw [hlen]; exact hm3) hg, ← hgq] at h
          exact h
        clear HD hm3 hgq
        go_upto_region 6 with fail
        go_cut [6] (fun e wc => wr = wc ∧ e = .int .i64 ((k : Int) + 1 + (m : Int)))
        case first =>
          go_wp2
          all_goals go_meet
          all_goals exact ⟨rfl, congrArg (Value.int .i64) (by have := HM.out; omega)⟩
        case rest =>
          obtain ⟨rfl, rfl⟩ := hcut
          go_upto_if 52 with fail
          go_cut [0] (fun d wc => ∃ E : List Int, wc.ownsRow B 5 1 d E.length (U8 E) ∧ Below B w wc ∧ Hid (E ++ (Plain.esc ((zs.drop (k + 1)).take m) ++ Plain.txt gq false (zs.drop (k + 1 + nn))) = X ++ Plain.text zs))
          case first =>
            by_cases hk0 : k = 0
            · have hkd : decide (0 < k) = false := by simp [hk0]
              go_wp2
              go_meet
              exact ⟨D, hownr, hbel, show _ = _ by have h := HD0.out; rw [if_pos (by simp [hk0])] at h; simpa using h⟩
            · have hkd : 0 < k := by omega
              go_wp2_with (at_builtin; refine wpList_app8 rfl (.tmp 53) (.tmp 54) rfl [46] [.int .u8 46] rfl 1 rfl rfl rfl hbel hBr hownr (by omega) ?_; intro v' w1 R1 R2)
              have R := And.intro R1 R2
              clear R1 R2
              clear hownr hbel
              have RR : Hid (_ ∧ _) := R
              clear R
              go_wp2
              go_meet
              exact ⟨D ++ [46], RR.out.1, RR.out.2, show _ = _ by have h := HD0.out; rw [if_neg (by simp [hk0])] at h; simpa using h⟩
          case rest =>
            clear hownr hbel HD0 D_le hBr g1
            obtain ⟨E, hownr, hbel, HE⟩ := hcut
            obtain ⟨wi, hwi⟩ : ∃ wi, wi = wc := ⟨_, rfl⟩
            subst hwi
            go_upto_region 9 with fail
            go_cut [60, 61, 62] (fun s l i wc => wi = wc ∧ l = .int .i64 (m : Int) ∧ i = .int .i64 0 ∧ ∃ A C, s = .slice A m C ∧ Hid (0 < m → A = some ⟨b, o + (k + 1), none⟩))
            case first =>
              by_cases hcp : cap = k + 1
              · subst hcp
                go_wp2
                go_meet
                exact ⟨rfl, rfl, rfl, some ⟨b, o, none⟩, 0, by rw [Nat.add_sub_cancel_left], show _ → _ from fun h => by omega⟩
              · go_wp2
                go_meet
                exact ⟨rfl, rfl, rfl, some ⟨b, o + (k + 1), none⟩, cap - (k + 1), by rw [Nat.add_sub_cancel_left], show _ → _ from fun _ => rfl⟩
            case rest =>
              obtain ⟨rfl, rfl, rfl, A, C, rfl, HA⟩ := hcut
              go_wp2
              go_loopg [0, 62] m (fun g dst j wr => ∃ (jj : Nat) (E : List Int), jj ≤ m ∧ g = m - jj ∧ j = .int .i64 jj ∧ wr.ownsRow B 5 1 dst E.length (U8 E) ∧ Below B w wr ∧ Hid (E ++ (Plain.esc ((zs.drop (k + 1 + jj)).take (m - jj)) ++ Plain.txt gq false (zs.drop (k + 1 + nn))) = X ++ Plain.text zs))
              case atStart => exact ⟨0, E, by omega, by omega, rfl, hownr, hbel, HE⟩
              case round =>
                clear hownr hbel HE
                obtain ⟨jj, E, hj, hgj, rfl, hownr, hbel, HE⟩ := hrel
                have E_le : E.length ≤ 10000001 := by
                  have h1 := congrArg List.length HE.out
                  have h2 := Plain.text_le zs
                  simp only [List.length_append] at h1
                  omega
                have hBr : B ≤ wr.heap.size := by have := hbel.size; omega
                by_cases hjm : jj < m
                · have hA := HA.out (by omega)
                  subst hA
                  obtain ⟨c, hcc⟩ : ∃ c, c = zs.getD (k + 1 + jj) 0 := ⟨_, rfl⟩
                  have hcb := hwf (k + 1 + jj) (by omega)
                  rw [← hcc] at hcb
                  obtain ⟨hcb1, hcb2⟩ := hcb
                  have g1 : wr.cell? ⟨b, o + (k + 1) + jj, none⟩ = some (.int .u8 c) := (hbel.cell hb).trans (by have := hc (k + 1 + jj) (by omega); rw [← hcc, ← Nat.add_assoc] at this; exact this)
                  have HE1 : Hid (E ++ ((Plain.esc1 c ++ Plain.esc ((zs.drop (k + 1 + (jj + 1))).take (m - (jj + 1)))) ++ Plain.txt gq false (zs.drop (k + 1 + nn))) = X ++ Plain.text zs) := by
                    have h := HE.out
                    rw [Plain.esc_round zs (k + 1) jj m hjm (by omega), ← hcc] at h
                    exact h
                  clear hcc HE
                  rcases (show (c = 46 ∨ c = 92) ∨ (¬ (c = 46 ∨ c = 92) ∧ c ≤ 32) ∨ (¬ (c = 46 ∨ c = 92) ∧ 126 < c) ∨ (¬ (c = 46 ∨ c = 92) ∧ ¬ (c ≤ 32 ∨ 126 < c)) by omega) with hw | hw | hw | hw
                  · have HW : Hid (c = 46 ∨ c = 92) := hw
                    rcases hw with hw | hw
                    · have t1 : (c == 46) = true := by simp [hw]
                      clear hw
                      go_wp2_with (at_builtin; refine wpList_app8 rfl (.tmp 77) (.tmp 79) rfl [92, c] [.int .u8 92, .int .u8 c] rfl 2 rfl rfl rfl hbel hBr hownr (by omega) ?_; intro v' w1 R1 R2)
                      have R := And.intro R1 R2
                      clear R1 R2
                      rw [← Plain.esc1_two c HW.out] at R
                      clear hownr hbel
                      have RR : Hid (_ ∧ _) := R
                      clear R
                      go_wp2
                      go_roundg (m - (jj + 1))
                      case measure => omega
                      case rel => exact ⟨jj + 1, E ++ Plain.esc1 c, by omega, rfl, by go_num, RR.out.1, RR.out.2, show _ = _ by rw [List.append_assoc, ← List.append_assoc (Plain.esc1 c)]; exact HE1.out⟩
                    · have t1 : (c == 46) = false := by simp [hw]
                      have t2 : (c == 92) = true := by simp [hw]
                      clear hw
                      go_wp2_with (at_builtin; refine wpList_app8 rfl (.tmp 77) (.tmp 79) rfl [92, c] [.int .u8 92, .int .u8 c] rfl 2 rfl rfl rfl hbel hBr hownr (by omega) ?_; intro v' w1 R1 R2)
                      have R := And.intro R1 R2
                      clear R1 R2
                      rw [← Plain.esc1_two c HW.out] at R
                      clear hownr hbel
                      have RR : Hid (_ ∧ _) := R
                      clear R
                      go_wp2
                      go_roundg (m - (jj + 1))
                      case measure => omega
                      case rel => exact ⟨jj + 1, E ++ Plain.esc1 c, by omega, rfl, by go_num, RR.out.1, RR.out.2, show _ = _ by rw [List.append_assoc, ← List.append_assoc (Plain.esc1 c)]; exact HE1.out⟩
                  · have HW : Hid (¬ (c = 46 ∨ c = 92) ∧ (c ≤ 32 ∨ 126 < c)) := ⟨hw.1, by omega⟩
                    have t1 : (c == 46) = false := by simp; omega
                    have t2 : (c == 92) = false := by simp; omega
                    have t3 := hw.2
                    clear hw
                    go_wp2_with (at_builtin; refine wpList_app8 rfl (.tmp 88) (.tmp 99) rfl [92, 48 + c / 100, 48 + c / 10 % 10, 48 + c % 10] [.int .u8 92, .int .u8 (48 + c / 100), .int .u8 (48 + c / 10 % 10), .int .u8 (48 + c % 10)] rfl 4 rfl rfl rfl hbel hBr hownr (by omega) ?_; intro v' w1 R1 R2)
                    have R := And.intro R1 R2
                    clear R1 R2
                    rw [← Plain.esc1_four c HW.out.1 HW.out.2] at R
                    clear hownr hbel
                    have RR : Hid (_ ∧ _) := R
                    clear R
                    go_wp2
                    go_roundg (m - (jj + 1))
                    case measure => omega
                    case rel => exact ⟨jj + 1, E ++ Plain.esc1 c, by omega, rfl, by go_num, RR.out.1, RR.out.2, show _ = _ by rw [List.append_assoc, ← List.append_assoc (Plain.esc1 c)]; exact HE1.out⟩
                  · have HW : Hid (¬ (c = 46 ∨ c = 92) ∧ (c ≤ 32 ∨ 126 < c)) := ⟨hw.1, by omega⟩
                    have t1 : (c == 46) = false := by simp; omega
                    have t2 : (c == 92) = false := by simp; omega
                    have t3 := hw.2
                    have t4 : 32 < c := by omega
                    clear hw
                    go_wp2_with (at_builtin; refine wpList_app8 rfl (.tmp 88) (.tmp 99) rfl [92, 48 + c / 100, 48 + c / 10 % 10, 48 + c % 10] [.int .u8 92, .int .u8 (48 + c / 100), .int .u8 (48 + c / 10 % 10), .int .u8 (48 + c % 10)] rfl 4 rfl rfl rfl hbel hBr hownr (by omega) ?_; intro v' w1 R1 R2)
                    have R := And.intro R1 R2
                    clear R1 R2
                    rw [← Plain.esc1_four c HW.out.1 HW.out.2] at R
                    clear hownr hbel
                    have RR : Hid (_ ∧ _) := R
                    clear R
                    go_wp2
                    go_roundg (m - (jj + 1))
                    case measure => omega
                    case rel => exact ⟨jj + 1, E ++ Plain.esc1 c, by omega, rfl, by go_num, RR.out.1, RR.out.2, show _ = _ by rw [List.append_assoc, ← List.append_assoc (Plain.esc1 c)]; exact HE1.out⟩
                  · have HW : Hid (¬ (c = 46 ∨ c = 92) ∧ ¬ (c ≤ 32 ∨ 126 < c)) := hw
                    have t1 : (c == 46) = false := by simp; omega
                    have t2 : (c == 92) = false := by simp; omega
                    have t3 : 32 < c := by omega
                    have t4 : c ≤ 126 := by omega
                    clear hw
                    go_wp2_with (at_builtin; refine wpList_app8 rfl (.tmp 66) (.tmp 68) rfl [c] [.int .u8 c] rfl 1 rfl rfl rfl hbel hBr hownr (by omega) ?_; intro v' w1 R1 R2)
                    have R := And.intro R1 R2
                    clear R1 R2
                    rw [← Plain.esc1_one c HW.out.1 HW.out.2] at R
                    clear hownr hbel
                    have RR : Hid (_ ∧ _) := R
                    clear R
                    go_wp2
                    go_roundg (m - (jj + 1))
                    case measure => omega
                    case rel => exact ⟨jj + 1, E ++ Plain.esc1 c, by omega, rfl, by go_num, RR.out.1, RR.out.2, show _ = _ by rw [List.append_assoc, ← List.append_assoc (Plain.esc1 c)]; exact HE1.out⟩
                · obtain rfl : jj = m := by omega
                  have HE1 : Hid (E ++ Plain.txt gq false (zs.drop (k + 1 + nn)) = X ++ Plain.text zs) := by
                    have h := HE.out
                    rw [Nat.sub_self, List.take_zero, Plain.esc_nil, List.nil_append] at h
                    exact h
                  clear HE
                  have g2 : wr.cell? ⟨b, o + k, none⟩ = some (.int .u8 nn) := (hbel.cell hb).trans (by rw [hc k (by omega), HN.out])
                  have RR : Hid (_ ∧ _) := And.intro hownr hbel
                  clear hownr hbel
                  go_wp2
                  go_roundg gq
                  case measure => have := HGQ.out; omega
                  case rel => exact ⟨k + 1 + nn, E, by go_num, by omega, RR.out.1, RR.out.2, show _ = _ by rw [show ((k + 1 + nn == 0) = false) from by simp]; exact HE1.out, by omega⟩
    · have HD1 : Hid (D = X ++ Plain.text zs) := show _ = _ by have h := HD.out; rw [Plain.txt_stop zs k gk (.inl (by omega)), List.append_nil] at h; exact h
      clear HD
      go_wp2
      go_ret
      rw [HD1.out] at hownr
      exact ⟨_, rfl, hownr, hbel⟩

/-- The root: no name, or a name that begins with a zero length: a dot. -/
theorem name_dot_empty (B : Nat) (v : Value) (X : List Int) (ao : Option Addr) (cap : Nat) (w : World) (hown : w.ownsRow B 5 1 v X.length (U8 X)) (hB : B ≤ w.heap.size) (hX : X.length ≤ 2000000) :
    Calls Try.prog 7 #[v, .slice ao 0 cap] w fun e w' => ∃ v', e = .returned v' ∧ w'.ownsRow B 5 1 v' (X ++ [46]).length (U8 (X ++ [46])) ∧ Below B w w' := by
  have hbel := Below.refl B w
  go_enter Try.func7, Try.ntmps7
  go_wp2_with (at_builtin; refine wpList_app8 rfl (.tmp 18) (.tmp 19) rfl [46] [.int .u8 46] rfl 1 rfl rfl rfl hbel hB hown (by omega) ?_; intro v' w1 R1 R2)
  have RR : Hid (_ ∧ _) := And.intro R1 R2
  clear R1 R2 hown hbel
  go_wp2
  go_ret
  exact ⟨_, rfl, RR.out.1, RR.out.2⟩

theorem name_dot_zero (B : Nat) (v : Value) (X : List Int) (b o len cap : Nat) (w : World) (hown : w.ownsRow B 5 1 v X.length (U8 X)) (hB : B ≤ w.heap.size) (hX : X.length ≤ 2000000)
    (hpos : 0 < len) (hc : w.cell? ⟨b, o, none⟩ = some (.int .u8 0)) :
    Calls Try.prog 7 #[v, .slice (some ⟨b, o, none⟩) len cap] w fun e w' => ∃ v', e = .returned v' ∧ w'.ownsRow B 5 1 v' (X ++ [46]).length (U8 (X ++ [46])) ∧ Below B w w' := by
  have hbel := Below.refl B w
  have hlen0 : ((len : Int) == 0) = false := by simp; omega
  go_enter Try.func7, Try.ntmps7
  go_wp2_with (at_builtin; refine wpList_app8 rfl (.tmp 18) (.tmp 19) rfl [46] [.int .u8 46] rfl 1 rfl rfl rfl hbel hB hown (by omega) ?_; intro v' w1 R1 R2)
  have RR : Hid (_ ∧ _) := And.intro R1 R2
  clear R1 R2 hown hbel
  go_wp2
  go_ret
  exact ⟨_, rfl, RR.out.1, RR.out.2⟩

end Go.Proofs.Qxb6630020a
