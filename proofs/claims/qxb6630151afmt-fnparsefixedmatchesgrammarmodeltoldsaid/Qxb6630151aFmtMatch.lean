/-
  Seat b6630151aF: the walk of FnParseFixedMatchesGrammarModel.
-/
import Derived.Test.Qxb6630151aFmtModel
namespace Go.Proofs.Qxb6630151aFmt
open Go.RowKit Go.Extern.Stop Go.Stop Go.Extern

theorem bytes5_any (s : ByteArray) (w : World) (hs : s.size ≤ maxLen) :
    Calls Tryf.prog 5 #[.string s] w fun e w' => e = .returned (.bool (decide (s.size ≤ 1048576))) ∧ w = w' := by
  unfold maxLen at hs
  go_enter Tryf.func5, Tryf.ntmps5
  go_wp2
  all_goals (go_ret; refine ⟨ret_bool ?_, rfl⟩; simp; omega)

theorem model_big (s : ByteArray) (w : World) (hs : s.size ≤ maxLen) (hb : 1048576 < s.size) :
    Calls Tryf.prog 3 #[.string s] w fun e w' => e = .returned (.bool true) ∧ Below w.heap.size w w' := by
  unfold maxLen at hs
  go_enter Tryf.func3, Tryf.ntmps3
  go_wp2
  go_ret
  exact ⟨rfl, Below.refl _ _⟩

set_option maxHeartbeats 1000000 in
theorem model_main (F : Interp) (s : ByteArray) (w : World) (hF : F.answers w.tape) (hs : s.size ≤ 1048576) :
    Calls Tryf.prog 3 #[.string s] w fun e w' => e = .returned (.bool true) ∧ Below w.heap.size w w' := by
  have hb5 : decide (s.size ≤ 1048576) = true := by simp [hs]
  go_enter Tryf.func3, Tryf.ntmps3
  go_wp2_with (go_at_call 5; refine (bytes5_any _ _ (by unfold maxLen; omega)).mono ?_; rintro e w' ⟨rfl, rfl⟩)
  refine (model_any s w (by omega)).mono ?_
  rintro e w' ⟨⟨vv, dg, cf, pl, rfl, HD⟩, rfl⟩
  rcases HD.out with ⟨rfl, hr⟩ | ⟨rfl, h18, hr⟩ | ⟨rfl, h18, hr⟩
  · have HR : Hid (Plain.parse (bs s) = none) := hr
    clear hr HD
    go_wp2_with fail
    refine (parse_any F s _ (by exact hF) (by omega)).mono ?_
    rintro e w1 ⟨he1, hb1⟩
    rw [HR.out] at he1
    obtain ⟨p1, he1⟩ := he1
    subst he1
    have HB1 : Hid (Below w.heap.size w w1) := hb1
    have hz := hb1.size
    clear hb1
    go_wp2
    go_ret
    exact ⟨rfl, HB1.out.alloc hz _⟩
  · have HR : Hid (Plain.parse (bs s) = some none) := hr
    clear hr HD
    go_wp2_with fail
    refine (parse_any F s _ (by exact hF) (by omega)).mono ?_
    rintro e w1 ⟨he1, hb1⟩
    rw [HR.out] at he1
    have he1' : e = .returned (.tuple #[.agg #[.int .i64 0, .int .i32 0], .bool false, .nilIface]) := he1
    subst he1'
    clear he1
    have HB1 : Hid (Below w.heap.size w w1) := hb1
    have hz := hb1.size
    clear hb1
    go_wp2
    go_ret
    exact ⟨rfl, HB1.out.alloc hz _⟩
  · have HR : Hid (Plain.parse (bs s) = some (some (cf, pl))) := hr
    clear hr HD
    go_wp2_with fail
    refine (parse_any F s _ (by exact hF) (by omega)).mono ?_
    rintro e w1 ⟨he1, hb1⟩
    rw [HR.out] at he1
    have he1' : e = .returned (.tuple #[.agg #[.int .i64 cf, .int .i32 pl], .bool true, .nilIface]) := he1
    subst he1'
    clear he1
    have HB1 : Hid (Below w.heap.size w w1) := hb1
    have hz := hb1.size
    clear hb1
    go_wp2
    go_ret
    exact ⟨rfl, HB1.out.alloc hz _⟩

end Go.Proofs.Qxb6630151aFmt
