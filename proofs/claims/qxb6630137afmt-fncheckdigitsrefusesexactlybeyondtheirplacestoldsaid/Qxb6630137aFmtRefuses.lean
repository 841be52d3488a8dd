/-
  Seat b6630137aF: the walk and the card of FnCheckDigitsRefusesExactlyBeyondTheirPlaces.
-/
import Derived.Test.Qxb6630137aFmtBase
import Derived.Test.Qxb6630137aFmtCards
import Derived.ProofKit
import Derived.ShutString
import Derived.OpenShut
import Derived.Stop.JoinedTold
import Derived.SevenToldRow
namespace Go.Proofs.Qxb6630137aFmt
open Go.ChangeShapes Go.WideShapes Go.ChangeAt Go.RowKit
open Go.ChangeMaps (open_string shut_string)
open Go.Extern.Stop Go.Stop Go.Extern

theorem refuses_skip (nm : ByteArray) (a b : Int) (w : World) (hs : nm.size ≤ maxLen) (h : 1048576 < nm.size ∨ a < 0 ∨ b < 0) :
    Calls Tryf.prog 3 #[.string nm, .int .i64 a, .int .i64 b] w fun e w' => e = .returned (.bool true) ∧ Below w.heap.size w w' := by
  unfold maxLen at hs
  by_cases h1 : 1048576 < nm.size
  · go_enter Tryf.func3, Tryf.ntmps3
    go_wp2
    go_ret
    exact ⟨rfl, Below.refl _ _⟩
  · by_cases h2 : a < 0
    · go_enter Tryf.func3, Tryf.ntmps3
      go_wp2
      go_ret
      exact ⟨rfl, Below.refl _ _⟩
    · have h3 : b < 0 := by omega
      go_enter Tryf.func3, Tryf.ntmps3
      go_wp2
      go_ret
      exact ⟨rfl, Below.refl _ _⟩

theorem refuses_main (F : Interp) (nm : ByteArray) (a b : Int) (w : World) (hF : F.answers w.tape) (hs : nm.size ≤ 1048576) (ha : 0 ≤ a) (hb : 0 ≤ b) (ha2 : a ≤ 9223372036854775807) (hb2 : b ≤ 9223372036854775807) :
    Calls Tryf.prog 3 #[.string nm, .int .i64 a, .int .i64 b] w fun e w' => e = .returned (.bool true) ∧ Below w.heap.size w w' := by
  by_cases h1 : a ≤ 100
  · by_cases h2 : b ≤ 99
    · go_enter Tryf.func3, Tryf.ntmps3
      go_wp2_with (first | (go_at_call 5; go_in) | (go_at_call 7; go_in) | (go_at_call 8; go_in))
      refine (check_ok _ _ _ _ (by omega) (by omega)).mono ?_
      rintro e w1 ⟨rfl, rfl⟩
      go_wp2_with (first | (go_at_call 5; go_in) | (go_at_call 7; go_in) | (go_at_call 8; go_in))
      refine (check_ok _ _ _ _ (by omega) (by omega)).mono ?_
      rintro e w2 ⟨rfl, rfl⟩
      go_wp2_with (first | (go_at_call 5; go_in) | (go_at_call 7; go_in) | (go_at_call 8; go_in))
      refine (check_ok _ _ _ _ (by omega) (by omega)).mono ?_
      rintro e w3 ⟨rfl, rfl⟩
      go_wp2_with (first | (go_at_call 5; go_in) | (go_at_call 7; go_in) | (go_at_call 8; go_in))
      go_ret
      exact ⟨ret_bool (by simp; omega), Below.refl _ _⟩
    · have h2' : 99 < b := by omega
      go_enter Tryf.func3, Tryf.ntmps3
      go_wp2_with (first | (go_at_call 5; go_in) | (go_at_call 7; go_in) | (go_at_call 8; go_in))
      refine (check_below F _ _ _ _ (by exact hF) (by omega) (by omega)).mono ?_
      rintro e w1 ⟨p1, rfl, hb1⟩
      have hF1 := answers_below hF hb1
      go_wp2_with (first | (go_at_call 5; go_in) | (go_at_call 7; go_in) | (go_at_call 8; go_in))
      refine (check_ok _ _ _ _ (by omega) (by omega)).mono ?_
      rintro e w2 ⟨rfl, rfl⟩
      go_wp2_with (first | (go_at_call 5; go_in) | (go_at_call 7; go_in) | (go_at_call 8; go_in))
      refine (check_below F _ _ _ _ (by exact hF1) (by omega) (by omega)).mono ?_
      rintro e w3 ⟨p3, rfl, hb3⟩
      have hF3 := answers_below hF1 hb3
      go_wp2_with (first | (go_at_call 5; go_in) | (go_at_call 7; go_in) | (go_at_call 8; go_in))
      go_ret
      exact ⟨rfl, (hb1).trans (hb3.mono (by have := hb1.size; omega))⟩
  · have h1' : 100 < a := by omega
    have t1 : decide (99 < a - 1) = true := by simp; omega
    by_cases h2 : b ≤ 99
    · go_enter Tryf.func3, Tryf.ntmps3
      go_wp2_with (first | (go_at_call 5; go_in) | (go_at_call 7; go_in) | (go_at_call 8; go_in))
      refine (check_above F _ _ _ _ (by exact hF) (by omega)).mono ?_
      rintro e w1 ⟨p1, rfl, hb1⟩
      have hF1 := answers_below hF hb1
      go_wp2_with (first | (go_at_call 5; go_in) | (go_at_call 7; go_in) | (go_at_call 8; go_in))
      refine (check_above F _ _ _ _ (by exact hF1) (by omega)).mono ?_
      rintro e w2 ⟨p2, rfl, hb2⟩
      have hF2 := answers_below hF1 hb2
      go_wp2_with (first | (go_at_call 5; go_in) | (go_at_call 7; go_in) | (go_at_call 8; go_in))
      refine (check_ok _ _ _ _ (by omega) (by omega)).mono ?_
      rintro e w3 ⟨rfl, rfl⟩
      go_wp2_with (first | (go_at_call 5; go_in) | (go_at_call 7; go_in) | (go_at_call 8; go_in))
      go_ret
      exact ⟨ret_bool (by simp; omega), (hb1).trans (hb2.mono (by have := hb1.size; omega))⟩
    · have h2' : 99 < b := by omega
      go_enter Tryf.func3, Tryf.ntmps3
      go_wp2_with (first | (go_at_call 5; go_in) | (go_at_call 7; go_in) | (go_at_call 8; go_in))
      refine (check_above F _ _ _ _ (by exact hF) (by omega)).mono ?_
      rintro e w1 ⟨p1, rfl, hb1⟩
      have hF1 := answers_below hF hb1
      go_wp2_with (first | (go_at_call 5; go_in) | (go_at_call 7; go_in) | (go_at_call 8; go_in))
      refine (check_above F _ _ _ _ (by exact hF1) (by omega)).mono ?_
      rintro e w2 ⟨p2, rfl, hb2⟩
      have hF2 := answers_below hF1 hb2
      go_wp2_with (first | (go_at_call 5; go_in) | (go_at_call 7; go_in) | (go_at_call 8; go_in))
      refine (check_below F _ _ _ _ (by exact hF2) (by omega) (by omega)).mono ?_
      rintro e w3 ⟨p3, rfl, hb3⟩
      have hF3 := answers_below hF2 hb3
      go_wp2_with (first | (go_at_call 5; go_in) | (go_at_call 7; go_in) | (go_at_call 8; go_in))
      go_ret
      exact ⟨rfl, ((hb1).trans (hb2.mono (by have := hb1.size; omega))).trans (hb3.mono (by have := hb1.size; have := hb2.size; omega))⟩

theorem ownrefuses : ownKnob Tryf.prog.godebug = none := by kernel_rfl
theorem laidOutrefuses : laidOutB Tryf.pinned.checked.prog = true := by kernel_rfl
theorem stopsrefuses : Tryf.pinned.checked.prog.stops = ["fmt.errorf"] := by kernel_rfl
theorem stopKnobsrefuses : Tryf.pinned.checked.prog.stopKnobs = [] := by kernel_rfl
theorem quietrefuses (os : Os) : Stop.quiet Tryf.pinned.checked.prog os := by
  intro k hk
  rw [stopKnobsrefuses] at hk
  cases hk

set_option maxRecDepth 100000 in
theorem refuses_lifted (os : Os) (started : os.Started) (H : Type) (enc : TypeId × Value → H) :
    ReturnsInTold none {} Tryf.checked os 3 .any Input.okWide ((OpenSpec.ofChange Rows.fnCheckDigitsRefusesExactlyBeyondTheirPlacesSpec).preRow enc Tryf.prog Tryf.f3 [] false []) (fun F => ((OpenSpec.ofChange Rows.fnCheckDigitsRefusesExactlyBeyondTheirPlacesSpec).at F.told).post enc Tryf.prog Tryf.f3 false true false false) (aloneAtReturn Tryf.prog) nothingAlways := by
  refine returnsInTold_of_row (C := Tryf.checked) (s := OpenSpec.ofChange Rows.fnCheckDigitsRefusesExactlyBeyondTheirPlacesSpec) (by kernel_rfl) ownrefuses started (by kernel_rfl) Tryf.func3
    (OpenSpec.witness_stopped (enc := enc) (C := Tryf.checked) false ⟨#[], #[.string ⟨#[]⟩, .int .i64 0, .int .i64 0], []⟩ 8 (by kernel_rfl) (by kernel_rfl) (by kernel_rfl) (by kernel_rfl)) ?_
  intro F W base args ds gs before _ hF hval0 hW _ _ _ _ _
  have hval : ∀ (j : Nat) t v, Tryf.f3.params[j]? = some t → args[j]? = some v → Value.okWide Tryf.prog W .any base t v := hval0
  have hW' := hW
  obtain ⟨p, q, hA0, hV, rfl, hfz, hnd⟩ := hW
  have hA : DataW.TrodAll enc Tryf.prog W 0 (fun _ => true) true Tryf.f3.params.toList args.toList ds p := hA0
  rw [Tryf.params3] at hA hval
  obtain ⟨v0, v1, v2, d0, d1, d2, p0, p1, p2, rfl, rfl, rfl, h0, h1, h2⟩ := trodAll_three hA
  obtain ⟨rfl, rfl⟩ := trodVars_none hV
  obtain ⟨nm, rfl, rfl, rfl, wnm⟩ := open_string Tryf.underlying9 (hval 0 9 v0 rfl rfl) h0
  obtain ⟨a, rfl, rfl, rfl, wa⟩ := open_int Tryf.underlying3 (hval 1 3 v1 rfl rfl) h1
  obtain ⟨b, rfl, rfl, rfl, wb⟩ := open_int Tryf.underlying3 (hval 2 3 v2 rfl rfl) h2
  clear hA0 hval0
  have main : Calls Tryf.prog 3 #[.string nm, .int .i64 a, .int .i64 b] W fun e w' => e = .returned (.bool true) ∧ Below W.heap.size W w' := by
    by_cases h : 1048576 < nm.size ∨ a < 0 ∨ b < 0
    · exact refuses_skip nm a b W wnm h
    · have ba := bounds_i64 wa
      have bb := bounds_i64 wb
      exact refuses_main F.told nm a b W hF (by omega) (by omega) (by omega) (by omega) (by omega)
  refine main.mono fun e W' ⟨he, bel⟩ => ?_
  subst he
  refine ⟨_, rfl, _, _, _, [], [], [], hW', trodAll_mk1 (shut_bool Tryf.underlying4 _), ?_, rfl, bel.frame _, fun h => by cases h⟩
  exact trodAll_mk3 (shut_string Tryf.underlying9 wnm) (shut_int Tryf.underlying3 wa) (shut_int Tryf.underlying3 wb)

theorem refuses_told : Rows.FnCheckDigitsRefusesExactlyBeyondTheirPlacesToldSaid :=
  Claim7.holds_of_told_any 3 Tryf.f3 "fmt.errorf" [] [] _ _ _ (by kernel_rfl) rfl rfl rfl laidOutrefuses (by kernel_rfl) rfl ⟨rfl, rfl, rfl, rfl, rfl, rfl, rfl⟩ rfl rfl (by kernel_rfl) (by kernel_rfl) Tryf.func3 (by kernel_rfl)
    (of_decide_eq_true (by kernel_rfl)) (of_decide_eq_true (by kernel_rfl)) stopsrefuses.symm rfl stopKnobsrefuses.symm (by kernel_rfl)
    (by kernel_rfl) (by kernel_rfl) (by kernel_rfl) (by kernel_rfl) (by kernel_rfl) (by kernel_rfl) (by kernel_rfl) (by kernel_rfl) (by kernel_rfl) rfl (by kernel_rfl) rfl rfl
    rfl rfl
    rfl (by kernel_rfl) (by kernel_rfl) (by kernel_rfl) (by decide) (by kernel_rfl)
    (OpenClaim.moreEntering_of (by kernel_rfl) (by kernel_rfl) (by kernel_rfl) (by kernel_rfl) (by kernel_rfl) (by kernel_rfl) (by kernel_rfl) (by kernel_rfl) (by kernel_rfl) (by kernel_rfl))
    ⟨_, WideRow.started_initial, quietrefuses _⟩
    (fun os started _ H enc _ => refuses_lifted os started H enc)
#print axioms refuses_told

end Go.Proofs.Qxb6630137aFmt
