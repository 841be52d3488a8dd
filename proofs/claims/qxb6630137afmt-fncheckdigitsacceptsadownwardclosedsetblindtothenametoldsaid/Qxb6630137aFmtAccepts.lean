/-
  Seat b6630137aF: the walk and the card of FnCheckDigitsAcceptsADownwardClosedSetBlindToTheName.
-/
import Derived.Test.Qxb6630137aFmtBase
import Derived.Test.Qxb6630137aFmtCards
import Derived.ProofKit
import Derived.ShutString
import Derived.OpenShut
import Derived.Stop.JoinedTold
import Derived.SevenToldRow
namespace Go.Proofs.Qxb6630137aFmt
open Go.ChangeShapes Go.WideShapes Go.ChangeAt Go.RowKit
open Go.ChangeMaps (open_string shut_string)
open Go.Extern.Stop Go.Stop Go.Extern

set_option maxHeartbeats 1600000 in
theorem accepts_main (F : Interp) (n1 n2 : ByteArray) (a b c d : Int) (w : World) (hF : F.answers w.tape) (hs : n1.size + n2.size ≤ 1048576) (ha : 0 ≤ a) (hb : 0 ≤ b) (hc : 0 ≤ c) (hd : 0 ≤ d)
    (ha2 : a ≤ 9223372036854775807) (hb2 : b ≤ 9223372036854775807) (hc2 : c ≤ 9223372036854775807) (hd2 : d ≤ 9223372036854775807) :
    Calls Tryf.prog 4 #[.string n1, .string n2, .int .i64 a, .int .i64 b, .int .i64 c, .int .i64 d] w fun e w' => e = .returned (.bool true) ∧ Below w.heap.size w w' := by
  by_cases hA : a ≤ 100 ∧ b ≤ 99
  · obtain ⟨hA1, hA2⟩ := hA
    by_cases hB : c ≤ 100 ∧ d ≤ 99
    · obtain ⟨hB1, hB2⟩ := hB
      go_enter Tryf.func4, Tryf.ntmps4
      go_wp2_with (first | (go_at_call 9; go_in) | (go_at_call 10; refine (within_yes _ _ _ (by omega) (by omega) (by omega) (by omega)).mono ?_; rintro e w' ⟨rfl, rfl⟩) | (go_at_call 6; refine (check_ok _ _ _ _ (by omega) (by omega)).mono ?_; rintro e w1 ⟨rfl, rfl⟩))
      all_goals (go_ret; exact ⟨rfl, Below.refl _ _⟩)
    · go_enter Tryf.func4, Tryf.ntmps4
      go_wp2_with (first | (go_at_call 9; go_in))
      refine (check_ok _ _ _ _ (by omega) (by omega)).mono ?_
      rintro e w1 ⟨rfl, rfl⟩
      go_wp2_with fail
      refine (check_no F _ _ _ _ (by exact hF) hB).mono ?_
      rintro e w2 ⟨p2, rfl, hbb2⟩
      go_wp2_with fail
      refine (check_ok _ _ _ _ (by omega) (by omega)).mono ?_
      rintro e w1 ⟨rfl, rfl⟩
      go_wp2_with (go_at_call 10; refine (within_yes _ _ _ (by omega) (by omega) (by omega) (by omega)).mono ?_; rintro e w' ⟨rfl, rfl⟩)
      all_goals (go_ret; exact ⟨rfl, hbb2⟩)
  · by_cases hB : c ≤ 100 ∧ d ≤ 99
    · obtain ⟨hB1, hB2⟩ := hB
      go_enter Tryf.func4, Tryf.ntmps4
      go_wp2_with (first | (go_at_call 9; go_in))
      refine (check_no F _ _ _ _ (by exact hF) hA).mono ?_
      rintro e w1 ⟨p1, rfl, hbb1⟩
      have hF1 := answers_below hF hbb1
      go_wp2_with fail
      refine (check_ok _ _ _ _ (by omega) (by omega)).mono ?_
      rintro e w2 ⟨rfl, rfl⟩
      go_wp2_with fail
      refine (check_no F _ _ _ _ (by exact hF1) hA).mono ?_
      rintro e w3 ⟨p3, rfl, hbb3⟩
      go_wp2_with (go_at_call 10; refine (within_no _ _ _ (by omega) (by omega) (by omega) (by omega) (by omega)).mono ?_; rintro e w' ⟨rfl, rfl⟩)
      all_goals (go_ret; exact ⟨rfl, hbb1.trans (hbb3.mono hbb1.size)⟩)
    · go_enter Tryf.func4, Tryf.ntmps4
      go_wp2_with (first | (go_at_call 9; go_in))
      refine (check_no F _ _ _ _ (by exact hF) hA).mono ?_
      rintro e w1 ⟨p1, rfl, hbb1⟩
      have hF1 := answers_below hF hbb1
      go_wp2_with fail
      refine (check_no F _ _ _ _ (by exact hF1) hB).mono ?_
      rintro e w2 ⟨p2, rfl, hbb2⟩
      have hF2 := answers_below hF1 hbb2
      go_wp2_with fail
      refine (check_no F _ _ _ _ (by exact hF2) hA).mono ?_
      rintro e w3 ⟨p3, rfl, hbb3⟩
      go_wp2_with (go_at_call 10; refine (within_no _ _ _ (by omega) (by omega) (by omega) (by omega) (by omega)).mono ?_; rintro e w' ⟨rfl, rfl⟩)
      all_goals (go_ret; exact ⟨rfl, (hbb1.trans (hbb2.mono hbb1.size)).trans (hbb3.mono (Nat.le_trans hbb1.size hbb2.size))⟩)

set_option maxHeartbeats 1600000 in
theorem accepts_skip (n1 n2 : ByteArray) (a b c d : Int) (w : World) (hs1 : n1.size ≤ maxLen) (hs2 : n2.size ≤ maxLen) (h : ¬ n1.size + n2.size ≤ 1048576 ∨ a < 0 ∨ b < 0 ∨ c < 0 ∨ d < 0) :
    Calls Tryf.prog 4 #[.string n1, .string n2, .int .i64 a, .int .i64 b, .int .i64 c, .int .i64 d] w fun e w' => e = .returned (.bool true) ∧ Below w.heap.size w w' := by
  unfold maxLen at hs1 hs2
  by_cases h1 : n1.size + n2.size ≤ 1048576
  · by_cases ha : a < 0
    · go_enter Tryf.func4, Tryf.ntmps4
      go_wp2
      all_goals (go_ret; exact ⟨rfl, Below.refl _ _⟩)
    · by_cases hb : b < 0
      · go_enter Tryf.func4, Tryf.ntmps4
        go_wp2
        all_goals (go_ret; exact ⟨rfl, Below.refl _ _⟩)
      · by_cases hc : c < 0
        · go_enter Tryf.func4, Tryf.ntmps4
          go_wp2
          all_goals (go_ret; exact ⟨rfl, Below.refl _ _⟩)
        · have hd : d < 0 := by omega
          go_enter Tryf.func4, Tryf.ntmps4
          go_wp2
          all_goals (go_ret; exact ⟨rfl, Below.refl _ _⟩)
  · go_enter Tryf.func4, Tryf.ntmps4
    go_wp2
    all_goals (go_ret; exact ⟨rfl, Below.refl _ _⟩)

theorem ownaccepts : ownKnob Tryf.prog.godebug = none := by kernel_rfl
theorem laidOutaccepts : laidOutB Tryf.pinned.checked.prog = true := by kernel_rfl
theorem stopsaccepts : Tryf.pinned.checked.prog.stops = ["fmt.errorf"] := by kernel_rfl
theorem stopKnobsaccepts : Tryf.pinned.checked.prog.stopKnobs = [] := by kernel_rfl
theorem quietaccepts (os : Os) : Stop.quiet Tryf.pinned.checked.prog os := by
  intro k hk
  rw [stopKnobsaccepts] at hk
  cases hk

set_option maxRecDepth 100000 in
theorem accepts_lifted (os : Os) (started : os.Started) (H : Type) (enc : TypeId × Value → H) :
    ReturnsInTold none {} Tryf.checked os 4 .any Input.okWide ((OpenSpec.ofChange Rows.fnCheckDigitsAcceptsADownwardClosedSetBlindToTheNameSpec).preRow enc Tryf.prog Tryf.f4 [] false []) (fun F => ((OpenSpec.ofChange Rows.fnCheckDigitsAcceptsADownwardClosedSetBlindToTheNameSpec).at F.told).post enc Tryf.prog Tryf.f4 false true false false) (aloneAtReturn Tryf.prog) nothingAlways := by
  refine returnsInTold_of_row (C := Tryf.checked) (s := OpenSpec.ofChange Rows.fnCheckDigitsAcceptsADownwardClosedSetBlindToTheNameSpec) (by kernel_rfl) ownaccepts started (by kernel_rfl) Tryf.func4
    (OpenSpec.witness_stopped (enc := enc) (C := Tryf.checked) false ⟨#[], #[.string ⟨#[]⟩, .string ⟨#[]⟩, .int .i64 0, .int .i64 0, .int .i64 0, .int .i64 0], []⟩ 8 (by kernel_rfl) (by kernel_rfl) (by kernel_rfl) (by kernel_rfl)) ?_
  intro F W base args ds gs before _ hF hval0 hW _ _ _ _ _
  have hval : ∀ (j : Nat) t v, Tryf.f4.params[j]? = some t → args[j]? = some v → Value.okWide Tryf.prog W .any base t v := hval0
  have hW' := hW
  obtain ⟨p, q, hA0, hV, rfl, hfz, hnd⟩ := hW
  have hA : DataW.TrodAll enc Tryf.prog W 0 (fun _ => true) true Tryf.f4.params.toList args.toList ds p := hA0
  rw [Tryf.params4] at hA hval
  obtain ⟨v0, vs0, d0, ds0, p0, q0, hargs, rfl, rfl, h0, r0⟩ := trodAll_cons hA
  obtain ⟨v1, vs1, d1, ds1, p1, q1, rfl, rfl, rfl, h1, r1⟩ := trodAll_cons r0
  obtain ⟨v2, vs2, d2, ds2, p2, q2, rfl, rfl, rfl, h2, r2⟩ := trodAll_cons r1
  obtain ⟨v3, vs3, d3, ds3, p3, q3, rfl, rfl, rfl, h3, r3⟩ := trodAll_cons r2
  obtain ⟨v4, vs4, d4, ds4, p4, q4, rfl, rfl, rfl, h4, r4⟩ := trodAll_cons r3
  obtain ⟨v5, vs5, d5, ds5, p5, q5, rfl, rfl, rfl, h5, r5⟩ := trodAll_cons r4
  obtain ⟨rfl, rfl, rfl⟩ := trodAll_nil r5
  obtain rfl : args = #[v0, v1, v2, v3, v4, v5] := by cases args; simp_all
  obtain ⟨rfl, rfl⟩ := trodVars_none hV
  obtain ⟨n1, rfl, rfl, rfl, wn1⟩ := open_string Tryf.underlying9 (hval 0 9 v0 rfl rfl) h0
  obtain ⟨n2, rfl, rfl, rfl, wn2⟩ := open_string Tryf.underlying9 (hval 1 9 v1 rfl rfl) h1
  obtain ⟨a, rfl, rfl, rfl, wa⟩ := open_int Tryf.underlying3 (hval 2 3 v2 rfl rfl) h2
  obtain ⟨b, rfl, rfl, rfl, wb⟩ := open_int Tryf.underlying3 (hval 3 3 v3 rfl rfl) h3
  obtain ⟨c, rfl, rfl, rfl, wc⟩ := open_int Tryf.underlying3 (hval 4 3 v4 rfl rfl) h4
  obtain ⟨d, rfl, rfl, rfl, wd⟩ := open_int Tryf.underlying3 (hval 5 3 v5 rfl rfl) h5
  clear hA0 hval0
  have main : Calls Tryf.prog 4 #[.string n1, .string n2, .int .i64 a, .int .i64 b, .int .i64 c, .int .i64 d] W fun e w' => e = .returned (.bool true) ∧ Below W.heap.size W w' := by
    by_cases h : ¬ n1.size + n2.size ≤ 1048576 ∨ a < 0 ∨ b < 0 ∨ c < 0 ∨ d < 0
    · exact accepts_skip n1 n2 a b c d W wn1 wn2 h
    · have ba := bounds_i64 wa
      have bb := bounds_i64 wb
      have bc := bounds_i64 wc
      have bd := bounds_i64 wd
      exact accepts_main F.told n1 n2 a b c d W hF (by omega) (by omega) (by omega) (by omega) (by omega) (by omega) (by omega) (by omega) (by omega)
  refine main.mono fun e W' ⟨he, bel⟩ => ?_
  subst he
  refine ⟨_, rfl, _, _, _, [], [], [], hW', trodAll_mk1 (shut_bool Tryf.underlying4 _), ?_, rfl, bel.frame _, fun h => by cases h⟩
  exact trodAll_cons_mk (shut_string Tryf.underlying9 wn1) (trodAll_cons_mk (shut_string Tryf.underlying9 wn2) (trodAll_cons_mk (shut_int Tryf.underlying3 wa) (trodAll_cons_mk (shut_int Tryf.underlying3 wb) (trodAll_cons_mk (shut_int Tryf.underlying3 wc) (trodAll_cons_mk (shut_int Tryf.underlying3 wd) trodAll_mk0)))))

theorem accepts_told : Rows.FnCheckDigitsAcceptsADownwardClosedSetBlindToTheNameToldSaid :=
  Claim7.holds_of_told_any 4 Tryf.f4 "fmt.errorf" [] [] _ _ _ (by kernel_rfl) rfl rfl rfl laidOutaccepts (by kernel_rfl) rfl ⟨rfl, rfl, rfl, rfl, rfl, rfl, rfl⟩ rfl rfl (by kernel_rfl) (by kernel_rfl) Tryf.func4 (by kernel_rfl)
    (of_decide_eq_true (by kernel_rfl)) (of_decide_eq_true (by kernel_rfl)) stopsaccepts.symm rfl stopKnobsaccepts.symm (by kernel_rfl)
    (by kernel_rfl) (by kernel_rfl) (by kernel_rfl) (by kernel_rfl) (by kernel_rfl) (by kernel_rfl) (by kernel_rfl) (by kernel_rfl) (by kernel_rfl) rfl (by kernel_rfl) rfl rfl
    rfl rfl
    rfl (by kernel_rfl) (by kernel_rfl) (by kernel_rfl) (by decide) (by kernel_rfl)
    (OpenClaim.moreEntering_of (by kernel_rfl) (by kernel_rfl) (by kernel_rfl) (by kernel_rfl) (by kernel_rfl) (by kernel_rfl) (by kernel_rfl) (by kernel_rfl) (by kernel_rfl) (by kernel_rfl))
    ⟨_, WideRow.started_initial, quietaccepts _⟩
    (fun os started _ H enc _ => accepts_lifted os started H enc)
#print axioms accepts_told

end Go.Proofs.Qxb6630137aFmt
