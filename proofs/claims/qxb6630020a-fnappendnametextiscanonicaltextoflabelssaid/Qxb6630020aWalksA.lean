/-
  Seat b6630020a: walks of the small functions: zzTextWidth, zzBytes_.., zzSameAt, zzCopyBytes.
-/
import Derived.Test.Qxb6630020aRows
import Derived.Test.Qxb6630020aPlain
import Derived.WalkKit
import Derived.WalkSpells
import Derived.BigQuiet
import Derived.Deep.QuietTactic
import Derived.Deep.LoopGhost
import Derived.Deep.DeepCutAuto
namespace Go.Proofs.Qxb6630020a
open Go.RowKit

theorem Try.info5 : (Try.prog.info? 5).map (fun i => (i.zero, i.size, i.bytes)) = some (some (.int .u8 0), 1, 1) := by kernel_rfl
theorem Try.info3 : (Try.prog.info? 3).map (fun i => (i.zero, i.size, i.bytes)) = some (some (.int .i64 0), 1, 8) := by kernel_rfl
theorem ret_int {k : IntKind} {a b : Int} (h : a = b) : Ending.returned (.int k a) = .returned (.int k b) := by rw [h]
theorem ret_bool {a b : Bool} (h : a = b) : Ending.returned (.bool a) = .returned (.bool b) := by rw [h]

theorem width_any (c : Int) (w : World) : Calls Try.prog 12 #[.int .u8 c] w fun e w' => e = .returned (.int .i64 (Plain.width c)) ∧ w = w' := by
  have w2 : c = 46 ∨ c = 92 → Plain.width c = 2 := fun h => by simp [Plain.width, h]
  have w4 : ¬ (c = 46 ∨ c = 92) → (c < 33 ∨ 126 < c) → Plain.width c = 4 := fun h h' => by simp [Plain.width, h, h']
  have w1 : ¬ (c = 46 ∨ c = 92) → ¬ (c < 33 ∨ 126 < c) → Plain.width c = 1 := fun h h' => by simp [Plain.width, h, h']
  have H : Hid ((c = 46 ∨ c = 92 → Plain.width c = 2) ∧ (¬ (c = 46 ∨ c = 92) → (c < 33 ∨ 126 < c) → Plain.width c = 4) ∧ (¬ (c = 46 ∨ c = 92) → ¬ (c < 33 ∨ 126 < c) → Plain.width c = 1)) := ⟨w2, w4, w1⟩
  clear w2 w4 w1
  go_enter Try.func12, Try.ntmps12
  go_wp2
  all_goals go_ret
  · exact ⟨ret_int (H.out.1 (.inl (by assumption))).symm, rfl⟩
  · exact ⟨ret_int (H.out.1 (by have h : (c == 46) = true ∨ (c == 92) = true := by assumption
                                simpa using h)).symm, rfl⟩
  · exact ⟨ret_int (H.out.2.1 (by have h : (c == 46) = false ∧ (c == 92) = false := by assumption
                                  simpa using h) (by assumption)).symm, rfl⟩
  · exact ⟨ret_int (H.out.2.2 (by have h : (c == 46) = false ∧ (c == 92) = false := by assumption
                                  simpa using h) (by omega)).symm, rfl⟩
  · exact ⟨ret_int (H.out.2.1 (by have h : (c == 46) = false ∧ (c == 92) = false := by assumption
                                  simpa using h) (by omega)).symm, rfl⟩

theorem bytes11_any (a0 : Option Addr) (l0 c0 : Nat) (a1 : Option Addr) (l1 c1 : Nat) (h0 : l0 ≤ maxLen) (h1 : l1 ≤ maxLen) (w : World) :
    Calls Try.prog 11 #[.slice a0 l0 c0, .slice a1 l1 c1] w fun e w' => e = .returned (.bool (decide (l0 + l1 ≤ 1048576))) ∧ w = w' := by
  unfold maxLen at h0 h1
  go_enter Try.func11, Try.ntmps11
  go_wp2
  all_goals (go_ret; refine ⟨ret_bool ?_, rfl⟩; simp; omega)

theorem bytes5_any (a0 : Option Addr) (l0 c0 : Nat) (a1 : Option Addr) (l1 c1 : Nat) (h0 : l0 ≤ maxLen) (h1 : l1 ≤ maxLen) (w : World) :
    Calls Try.prog 5 #[.slice a0 l0 c0, .slice a1 l1 c1] w fun e w' => e = .returned (.bool (decide (l0 + l1 ≤ 1048576))) ∧ w = w' := by
  unfold maxLen at h0 h1
  go_enter Try.func5, Try.ntmps5
  go_wp2
  all_goals (go_ret; refine ⟨ret_bool ?_, rfl⟩; simp; omega)

abbrev U8 (l : List Int) : List Value := l.map (Value.int .u8)

theorem same_any (b o cap b2 o2 cap2 : Nat) (G P : List Int) (at_ : Nat) (w : World) (hG : G.length ≤ 100000000) (hat : at_ + P.length ≤ G.length)
    (hb : ∀ i, i < G.length → w.cell? ⟨b, o + i, none⟩ = some (.int .u8 (G.getD i 0)))
    (hb2 : ∀ i, i < P.length → w.cell? ⟨b2, o2 + i, none⟩ = some (.int .u8 (P.getD i 0)))
    (heq : ∀ i, i < P.length → G.getD (at_ + i) 0 = P.getD i 0) :
    Calls Try.prog 8 #[.slice (some ⟨b, o, none⟩) G.length cap, .int .i64 at_, .slice (some ⟨b2, o2, none⟩) P.length cap2] w fun e w' => e = .returned (.bool true) ∧ ∃ n, w' = w.drewN n := by
  go_enter Try.func8, Try.ntmps8
  go_wp2
  go_loopg [7] P.length (fun g i wr => ∃ k : Nat, k ≤ P.length ∧ g = P.length - k ∧ i = .int .i64 k ∧ ∃ n, wr = w.drewN n)
  case atStart => exact ⟨0, by omega, by omega, rfl, 0, rfl⟩
  case round =>
    obtain ⟨k, hk, hg, rfl, nq0, rfl⟩ := hrel
    by_cases hlt : k < P.length
    · have g1 := hb (at_ + k) (by omega)
      have g2 := hb2 k hlt
      have g3 := heq k hlt
      rw [g3] at g1
      have l1 : (at_ : Int) + (k : Int) < (G.length : Int) := by omega
      have l2 : (k : Int) < (P.length : Int) := by omega
      clear heq hb hb2 g3
      go_wp2
      go_quiet (fail)
      go_wp2
      go_roundg (P.length - (k + 1))
      case measure => omega
      case rel => exact ⟨k + 1, by omega, rfl, by go_num, _, rfl⟩
    · go_wp2
      go_ret
      exact ⟨rfl, _, rfl⟩

theorem copy_nil (w : World) : Calls Try.prog 6 #[.slice none 0 0] w fun e w' => e = .returned (.slice none 0 0) ∧ w' = w := by
  have hn := @Lib.run_eql_slice_nil Try.prog
  go_enter Try.func6, Try.ntmps6
  go_wp2
  go_ret
  exact ⟨rfl, rfl⟩


theorem made_u8 (n : Nat) : (madeCells #[Value.int IntKind.u8 0] n).toList = U8 (List.replicate n 0) := by
  rw [toList_madeCells_one]; simp [U8]

/-- What a copying loop has written after k rounds. -/
def part (zs : List Int) (k : Nat) : List Int := zs.take k ++ List.replicate (zs.length - k) 0
theorem part_zero (zs : List Int) : part zs 0 = List.replicate zs.length 0 := by simp [part]
theorem part_all (zs : List Int) : part zs zs.length = zs := by simp [part]
theorem part_set (zs : List Int) (k : Nat) (h : k < zs.length) : (U8 (part zs k)).set k (.int .u8 (zs.getD k 0)) = U8 (part zs (k + 1)) := by
  unfold part U8
  rw [← List.map_set]
  congr 1
  apply List.ext_getElem?
  intro j
  rw [List.getElem?_set]
  by_cases hj : k = j
  · subst hj
    rw [if_pos rfl, if_pos (by simp; omega), List.getElem?_append_left (by simp; omega)]
    simp [h]
  · rw [if_neg hj]
    by_cases h2 : j < k
    · rw [List.getElem?_append_left (by simp; omega), List.getElem?_append_left (by simp; omega)]
      simp [h2, show j < k + 1 by omega]
    · rw [List.getElem?_append_right (by simp; omega), List.getElem?_append_right (by simp; omega)]
      simp only [List.length_take, List.getElem?_replicate]
      congr 1
      simp; omega

set_option maxHeartbeats 400000 in
theorem copy_some (b o len cap : Nat) (zs : List Int) (w : World) (hl : len ≤ 2000000) (hz : zs.length = len) (hbw : b < w.heap.size)
    (hc : ∀ i, i < zs.length → w.cell? ⟨b, o + i, none⟩ = some (.int .u8 (zs.getD i 0))) :
    Calls Try.prog 6 #[.slice (some ⟨b, o, none⟩) len cap] w fun e w' => e = .returned (.slice (some ⟨w.heap.size, 0, none⟩) len len) ∧
      w'.ownsRow w.heap.size 5 1 (.slice (some ⟨w.heap.size, 0, none⟩) len len) len (U8 zs) ∧ Below w.heap.size w w' := by
  obtain ⟨i0, hi, hz0, hz1, hz2⟩ := info_parts Try.info5
  have hn := @Lib.run_eql_slice_nil Try.prog
  subst hz
  go_enter Try.func6, Try.ntmps6
  go_wp2_with (at_make; refine wpList_make_full _ rfl _ _ 22 rfl w.heap.size 5 i0 (.int .u8 0) 1 Try.underlying22 hi hz0 hz1 .i64 .i64 _ _ zs.length rfl rfl rfl rfl ?_ ?_ ?_ ?_)
  · rw [hz2]; omega
  · unfold maxLen; omega
  · omega
  intro w1 hown hgr
  have hown1 : w1.ownsRow w.heap.size 5 1 (.slice (some ⟨w.heap.size, 0, none⟩) zs.length zs.length) zs.length (U8 (part zs 0)) := by
    rw [part_zero, ← made_u8]; exact hown
  have hbel : Below w.heap.size w w1 := (Below.refl _ _).grown hgr (Nat.le_refl _) (fun k hk => by cases hk)
  clear hown hgr
  go_wp2
  go_loopg [4] zs.length (fun g i wr => ∃ k : Nat, k ≤ zs.length ∧ g = zs.length - k ∧ i = .int .i64 k ∧ wr.ownsRow w.heap.size 5 1 (.slice (some ⟨w.heap.size, 0, none⟩) zs.length zs.length) zs.length (U8 (part zs k)) ∧ Below w.heap.size w wr)
  case atStart => exact ⟨0, by omega, by omega, rfl, hown1, hbel⟩
  case round =>
    clear hown1 hbel
    obtain ⟨k, hk, hg, rfl, hown, hbel⟩ := hrel
    by_cases hlt : k < zs.length
    · obtain ⟨c, hcc⟩ : ∃ c, c = zs.getD k 0 := ⟨_, rfl⟩
      have g1 : wr.cell? ⟨b, o + k, none⟩ = some (.int .u8 c) := (hbel.cell hbw).trans (by rw [hcc]; exact hc k hlt)
      have g2 : ∃ u, wr.cell? ⟨w.heap.size, k, none⟩ = some u := by
        rw [hown.cellAt k (by omega)]
        exact ⟨_, List.getElem?_eq_getElem (by rw [hown.1]; omega)⟩
      obtain ⟨u, g2⟩ := g2
      have g3 := hown.frozenAt k
      have st := hown.stored k (.int .u8 c)
      rw [hcc, part_set zs k hlt, ← hcc] at st
      have HS := st.1
      have HB := hbel.setCell (p := ⟨w.heap.size, k, none⟩) (Nat.le_refl _) (.int .u8 c)
      clear st hown hbel
      have A : Hid (_ ∧ _) := ⟨HS, HB⟩
      clear HS HB hc hcc
      go_wp2
      go_roundg (zs.length - (k + 1))
      case measure => omega
      case rel => exact ⟨k + 1, by omega, rfl, by go_num, A.out.1, A.out.2⟩
    · have hkk : k = zs.length := by omega
      subst hkk
      rw [part_all] at hown
      go_wp2
      go_ret
      exact ⟨rfl, hown, hbel⟩

end Go.Proofs.Qxb6630020a
