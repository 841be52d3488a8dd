/-
  Seat b6630020a: the walk of zzWireLabels.
-/
import Derived.Test.Qxb6630020aWalksC
import Derived.Test.Qxb6630020aPlain3
namespace Go.Proofs.Qxb6630020a
open Go.RowKit

abbrev I64 (l : List Int) : List Value := l.map (Value.int .i64)
/-- The slice value v owns the ints L, in blocks from B on. -/
def Own64 (w : World) (B : Nat) (v : Value) (L : List Int) : Prop := w.ownsRow B 3 1 v L.length (I64 L)

/-- 'out = append(out, x)' at ints, as one step of the walk. -/
theorem wpList_app64 {w wr : World} {ops : Array Oper} {rest : List Oper} {o : Oper} {a : Act} {Q : Exit → Act → World → Prop} (hgd : o.guard = none) (s x : Operand)
    (ho : o.op = .call { callee := .builtin .append, args := #[s, x], argTypes := #[27, 27] }) {B : Nat} {dst : Value} {D : List Int} (c : Int)
    (hs : a.eval s = dst) (hx : a.eval x = .slice (some ⟨wr.heap.size, 0, none⟩) 1 1) (hbel : Below B w wr) (hB : B ≤ wr.heap.size) (hown : Own64 wr B dst D) (hD : D.length + 1 ≤ 1000000000)
    (h : ∀ v' w', Own64 w' B v' (D ++ [c]) → Below B w w' → wpList Try.prog ops Q rest (a.put o.dst v') w') :
    wpList Try.prog ops Q (o :: rest) a (wr.alloc (.cells #[.int .i64 c] 3)) := by
  obtain ⟨i0, hi, hz0, hz1, hz2⟩ := info_parts Try.info3
  refine wpList_append_own _ hgd s x 27 ho B 3 i0 (.int .i64 0) 1 8 Try.underlying27 hi hz0 hz1 hz2 rfl (by decide) dst _ _ hs (World.ownsRow.alloc hown _) ⟨wr.heap.size, 0, none⟩ 1 1 [.int .i64 c] hx rfl (cell_one_new _ _ _) (ints_oneCell .i64 [c])
    (by unfold maxLen; omega) (by omega) (by simp; omega) fun v' w' hown' hgrow _ => ?_
  refine h v' w' (by simpa [Own64, I64] using hown') ((hbel.alloc hB _).grown hgrow (by simp; omega) (fun j hj => (World.ownsRow.lt hown j hj).1))

theorem Own64.shape {w : World} {B : Nat} {v : Value} {L : List Int} (h : Own64 w B v L) : ∃ ao cap, v = .slice ao L.length cap := by
  rcases h.2 with ⟨rfl, h0⟩ | ⟨g, cap, cur, rfl, _⟩
  · exact ⟨none, 0, by rw [h0]⟩
  · exact ⟨_, _, rfl⟩

set_option maxHeartbeats 4000000 in
set_option maxRecDepth 100000 in
theorem wire_loop (b o len cap : Nat) (zs : List Int) (w : World) (hb : b < w.heap.size)
    (hlen : zs.length = len) (hc : ∀ i, i < zs.length → w.cell? ⟨b, o + i, none⟩ = some (.int .u8 (zs.getD i 0)))
    (hwf : ∀ i, i < zs.length → 0 ≤ zs.getD i 0 ∧ zs.getD i 0 ≤ 255) (hl : len ≤ 2000000) (hpos : 0 < len) (h0 : zs.getD 0 0 ≠ 0) :
    Calls Try.prog 9 #[.slice (some ⟨b, o, none⟩) len cap] w fun e w' => ∃ (v' : Value) (cnt : Nat), e = .returned (.tuple #[v', .int .i64 cnt]) ∧ 1 ≤ cnt ∧ cnt ≤ len ∧
      Own64 w' w.heap.size v' (Plain.labels zs) ∧ Below w.heap.size w w' := by
  have hlen0 : ((len : Int) == 0) = false := by simp; omega
  have HX : Hid (zs.getD 0 0 ≠ 0) := h0
  clear h0
  have hle := Plain.labels_le zs
  go_enter Try.func9, Try.ntmps9
  go_wp2
  go_loopg [4, 5, 6] zs.length (fun g f c p wr => ∃ (k cnt : Nat) (D : List Int), p = .int .i64 k ∧ c = .int .i64 cnt ∧ k ≤ len + 256 ∧ cnt ≤ k ∧ cnt ≤ len ∧ Hid (cnt = 0 ↔ k = 0) ∧ Own64 wr w.heap.size f D ∧ Below w.heap.size w wr ∧ Hid (D ++ Plain.flat g (cnt == 0) (zs.drop k) = Plain.labels zs) ∧ zs.length - k ≤ g)
  case atStart =>
    exact ⟨0, 0, [], rfl, rfl, by omega, by omega, by omega, show _ ↔ _ by simp, World.ownsRow_nil _ _ _ _, Below.refl _ _, show _ = _ by rfl, by omega⟩
  case round =>
    obtain ⟨k, cnt, D, rfl, rfl, hk, hcnt, hcl, HK, hownr, hbel, HD, hg⟩ := hrel
    obtain ⟨gq, hgq⟩ : ∃ gq, gq = gk - 1 := ⟨_, rfl⟩
    have hgq1 : gk ≤ gq + 1 := by omega
    have HGQ : Hid (gq = gk - 1) := hgq
    have D_le : D.length ≤ 10000001 := by
      have h1 := congrArg List.length HD.out
      simp only [List.length_append] at h1
      omega
    by_cases hlt : k < len
    · by_cases hz : zs.getD k 0 = 0
      · have g1 : wr.cell? ⟨b, o + k, none⟩ = some (.int .u8 0) := (hbel.cell hb).trans (by rw [hc k (by omega), hz])
        have HD1 : Hid (D = Plain.labels zs) := show _ = _ by have h := HD.out; rw [Plain.flat_stop zs k gk (.inr hz), List.append_nil] at h; exact h
        have hk0 : 1 ≤ cnt := by
          rcases Nat.eq_zero_or_pos cnt with h | h
          · have := HK.out.1 h; subst this; exact absurd hz HX.out
          · exact h
        clear HD hz
        go_wp2
        go_ret2
        rw [HD1.out] at hownr
        exact ⟨_, cnt, rfl, hk0, hcl, hownr, hbel⟩
      · obtain ⟨nn, hnn⟩ : ∃ nn : Nat, zs.getD k 0 = (nn : Int) := ⟨(zs.getD k 0).toNat, by have := hwf k (by omega); omega⟩
        have hn1 : 1 ≤ nn := by omega
        have hn2 : nn ≤ 255 := by have := hwf k (by omega); omega
        have g1 : wr.cell? ⟨b, o + k, none⟩ = some (.int .u8 nn) := (hbel.cell hb).trans (by rw [hc k (by omega), hnn])
        have HN : Hid (zs.getD k 0 = (nn : Int)) := hnn
        have hnz : ((nn : Int) == 0) = false := by simp; omega
        obtain ⟨m, hm⟩ : ∃ m, m = min nn (len - (k + 1)) := ⟨_, rfl⟩
        have hm1 : k + 1 + m ≤ len := by omega
        have hm2 : m ≤ nn := by omega
        have hm3 : (m = nn ∨ k + 1 + m = len) := by omega
        have HM : Hid (m = nn ∨ k + 1 + m = len) := hm3
        have HD0 : Hid (D ++ ((if (cnt == 0) = true then [] else [-1]) ++ ((zs.drop (k + 1)).take m ++ Plain.flat gq false (zs.drop (k + 1 + nn)))) = Plain.labels zs) := by
          have h := HD.out
          rw [Plain.flat_round zs k nn m gk (by omega) HN.out hn1 hm2 (by rw [hlen]; exact hm3) hg, ← hgq] at h
          exact h
        clear hm HD hm3 hgq hnn hz
        have hBr : w.heap.size ≤ wr.heap.size := hbel.size
        go_upto_if 21 with fail
        go_cut [4] (fun d wc => ∃ E : List Int, Own64 wc w.heap.size d E ∧ Below w.heap.size w wc ∧ Hid (E ++ ((zs.drop (k + 1)).take m ++ Plain.flat gq false (zs.drop (k + 1 + nn))) = Plain.labels zs))
        case first =>
          by_cases hk0 : cnt = 0
          · have hkd : decide (0 < cnt) = false := by simp [hk0]
            go_wp2
            go_meet
            exact ⟨D, hownr, hbel, show _ = _ by have h := HD0.out; rw [if_pos (by simp [hk0])] at h; simpa using h⟩
          · have hkd : 0 < cnt := by omega
            go_wp2_with (at_builtin; refine wpList_app64 rfl (.tmp 22) (.tmp 23) rfl (-1) rfl rfl hbel hBr hownr (by omega) ?_; intro v' w1 R1 R2)
            have RR : Hid (_ ∧ _) := And.intro R1 R2
            clear R1 R2 hownr hbel
            go_wp2
            go_meet
            exact ⟨D ++ [-1], RR.out.1, RR.out.2, show _ = _ by have h := HD0.out; rw [if_neg (by simp [hk0])] at h; simpa using h⟩
        case rest =>
          clear hownr hbel HD0 D_le hBr g1
          obtain ⟨E, hownr, hbel, HE⟩ := hcut
          go_wp2
          go_loopg [4, 8] m (fun g dst j wr => ∃ (jj : Nat) (E : List Int), jj ≤ m ∧ g = m - jj ∧ j = .int .i64 ((k + 1 + jj : Nat) : Int) ∧ Own64 wr w.heap.size dst E ∧ Below w.heap.size w wr ∧ Hid (E ++ ((zs.drop (k + 1 + jj)).take (m - jj) ++ Plain.flat gq false (zs.drop (k + 1 + nn))) = Plain.labels zs))
          case atStart => exact ⟨0, E, by omega, by omega, by go_num, hownr, hbel, HE⟩
          case round =>
            clear hownr hbel HE
            obtain ⟨jj, E, hj, hgj, rfl, hownr, hbel, HE⟩ := hrel
            have E_le : E.length ≤ 10000001 := by
              have h1 := congrArg List.length HE.out
              simp only [List.length_append] at h1
              omega
            have hBr : w.heap.size ≤ wr.heap.size := hbel.size
            by_cases hjm : jj < m
            · obtain ⟨c, hcc⟩ : ∃ c, c = zs.getD (k + 1 + jj) 0 := ⟨_, rfl⟩
              have hcb := hwf (k + 1 + jj) (by omega)
              rw [← hcc] at hcb
              obtain ⟨hcb1, hcb2⟩ := hcb
              have g1 : wr.cell? ⟨b, o + (k + 1 + jj), none⟩ = some (.int .u8 c) := (hbel.cell hb).trans (by rw [hcc]; exact hc (k + 1 + jj) (by omega))
              have HE1 : Hid ((E ++ [c]) ++ ((zs.drop (k + 1 + (jj + 1))).take (m - (jj + 1)) ++ Plain.flat gq false (zs.drop (k + 1 + nn))) = Plain.labels zs) := by
                have h := HE.out
                rw [Plain.take_round zs (k + 1) jj m hjm (by omega), ← hcc] at h
                show _ = _
                rw [List.append_assoc]
                exact h
              clear hcc HE
              go_wp2_with (at_builtin; refine wpList_app64 rfl (.tmp 40) (.tmp 46) rfl c rfl rfl hbel hBr hownr (by omega) ?_; intro v' w1 R1 R2)
              have RR : Hid (_ ∧ _) := And.intro R1 R2
              clear R1 R2 hownr hbel
              go_wp2
              go_roundg (m - (jj + 1))
              case measure => omega
              case rel => exact ⟨jj + 1, E ++ [c], by omega, rfl, by go_num, RR.out.1, RR.out.2, HE1⟩
            · obtain rfl : jj = m := by omega
              have HE1 : Hid (E ++ Plain.flat gq false (zs.drop (k + 1 + nn)) = Plain.labels zs) := by
                have h := HE.out
                rw [Nat.sub_self, List.take_zero, List.nil_append] at h
                exact h
              clear HE
              have RR : Hid (_ ∧ _) := And.intro hownr hbel
              clear hownr hbel
              by_cases hmn : k + 1 + jj < len
              · have hjn : nn ≤ jj := by have := HM.out; omega
                go_wp2
                go_roundg gq
                case measure => have := HGQ.out; omega
                case rel => exact ⟨k + 1 + nn, cnt + 1, E, by go_num, by go_num, by omega, by omega, by omega, show _ ↔ _ by omega, RR.out.1, RR.out.2, show _ = _ by rw [show ((cnt + 1 == 0) = false) from by simp]; exact HE1.out, by omega⟩
              · have hd : decide (((k + 1 + jj : Nat) : Int) < (len : Int)) = false := by simp; omega
                go_wp2
                go_roundg gq
                case measure => have := HGQ.out; omega
                case rel => exact ⟨k + 1 + nn, cnt + 1, E, by go_num, by go_num, by omega, by omega, by omega, show _ ↔ _ by omega, RR.out.1, RR.out.2, show _ = _ by rw [show ((cnt + 1 == 0) = false) from by simp]; exact HE1.out, by omega⟩
    · have HD1 : Hid (D = Plain.labels zs) := show _ = _ by have h := HD.out; rw [Plain.flat_stop zs k gk (.inl (by omega)), List.append_nil] at h; exact h
      have hk0 : 1 ≤ cnt := by
        rcases Nat.eq_zero_or_pos cnt with h | h
        · have := HK.out.1 h; omega
        · exact h
      clear HD
      go_wp2
      go_ret2
      rw [HD1.out] at hownr
      exact ⟨_, cnt, rfl, hk0, hcl, hownr, hbel⟩

theorem wire_root_empty (ao : Option Addr) (cap : Nat) (w : World) :
    Calls Try.prog 9 #[.slice ao 0 cap] w fun e w' => e = .returned (.tuple #[.slice none 0 0, .int .i64 0]) ∧ w = w' := by
  go_enter Try.func9, Try.ntmps9
  go_wp2
  refine wp_loop_rounds 1 ?_
  rw [rounds_succ]
  go_wp2
  go_ret2
  exact ⟨rfl, rfl⟩
theorem wire_root_zero (b o len cap : Nat) (w : World) (hpos : 0 < len) (hc : w.cell? ⟨b, o, none⟩ = some (.int .u8 0)) :
    Calls Try.prog 9 #[.slice (some ⟨b, o, none⟩) len cap] w fun e w' => e = .returned (.tuple #[.slice none 0 0, .int .i64 0]) ∧ w = w' := by
  go_enter Try.func9, Try.ntmps9
  go_wp2
  refine wp_loop_rounds 1 ?_
  rw [rounds_succ]
  go_wp2
  go_ret2
  exact ⟨rfl, rfl⟩

end Go.Proofs.Qxb6630020a
