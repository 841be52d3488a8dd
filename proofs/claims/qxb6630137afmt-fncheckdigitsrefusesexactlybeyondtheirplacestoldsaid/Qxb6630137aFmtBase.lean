/-
  Seat b6630137aF: closed facts of fmt.errorf's entry over this dump; the contracts of CheckDigits and withinPlaces.
-/
import Derived.Test.Qxb6630137aFmtRows
import Derived.Stop.CallBack
import Derived.Stop.IfaceNil
import GoSem.ClaimData
import Derived.WalkKit
import Derived.WalkSpells
namespace Go.Proofs.Qxb6630137aFmt
open Go.RowKit Go.Extern.Stop Go.Stop Go.Extern

theorem call12 (args : Array Value) (w : World) : (callFunc 12 args).run Tryf.prog w = ((FmtStop.errorf #[9, 30] #[24] args).run Tryf.prog w).andThen fun v w' => .ok (.value v) w' :=
  run_callFunc_extern Tryf.func12 (by kernel_rfl) (by kernel_rfl) (by kernel_rfl) (by kernel_rfl) args w
theorem guard (name : String) (w : World) : (FmtStop.guard name).run Tryf.prog w = .ok () w := by kernel_rfl
theorem fmt0r (w : World) : (FmtDoors.printed ⟨#[37, 115, 32, 104, 97, 115, 32, 97, 32, 100, 105, 103, 105, 116, 32, 97, 98, 111, 118, 101, 32, 116, 104, 101, 32, 112, 108, 97, 99, 101, 32, 111, 102, 32, 49, 101, 57, 57]⟩ 1).run Tryf.prog w = .ok [(0, 115, false)] w := by kernel_rfl
theorem fmt0 : FmtStop.printed? ⟨#[37, 115, 32, 104, 97, 115, 32, 97, 32, 100, 105, 103, 105, 116, 32, 97, 98, 111, 118, 101, 32, 116, 104, 101, 32, 112, 108, 97, 99, 101, 32, 111, 102, 32, 49, 101, 57, 57]⟩ 1 = some [(0, 115, false)] := by kernel_rfl
theorem fmt1r (w : World) : (FmtDoors.printed ⟨#[37, 115, 32, 104, 97, 115, 32, 97, 32, 100, 105, 103, 105, 116, 32, 98, 101, 108, 111, 119, 32, 116, 104, 101, 32, 112, 108, 97, 99, 101, 32, 111, 102, 32, 49, 101, 45, 57, 57]⟩ 1).run Tryf.prog w = .ok [(0, 115, false)] w := by kernel_rfl
theorem fmt1 : FmtStop.printed? ⟨#[37, 115, 32, 104, 97, 115, 32, 97, 32, 100, 105, 103, 105, 116, 32, 98, 101, 108, 111, 119, 32, 116, 104, 101, 32, 112, 108, 97, 99, 101, 32, 111, 102, 32, 49, 101, 45, 57, 57]⟩ 1 = some [(0, 115, false)] := by kernel_rfl
def shape9 : List UInt8 := [12, 6, 0, 0, 0, 0, 0, 0, 0, 115, 116, 114, 105, 110, 103]
theorem op9 (name : String) (x : ByteArray) (w : World) : (FmtStop.operand name true 115 false (.iface 9 (.string x))).run Tryf.prog w = .ok (shape9, FmtStop.pack x.data.toList) w := by kernel_rfl
theorem op9' (name : String) (x : ByteArray) (w : World) : (FmtStop.operand name false 115 false (.iface 9 (.string x))).run Tryf.prog w = .ok (shape9, FmtStop.pack x.data.toList) w := by kernel_rfl
theorem ptr33 (w : World) : (FmtStop.ptrTo "errors.errorString").run Tryf.prog w = .ok 33 w := by kernel_rfl
theorem elem33 (w : World) : (elemOf 33).run Tryf.prog w = .ok 35 w := by kernel_rfl
theorem isError33 (w : World) : (FmtDoors.textMethod 33 "Error").run Tryf.prog w = .ok true w := by kernel_rfl
attribute [local go_sem] call12 guard fmt0r fmt0 fmt1r fmt1 op9 op9' ptr33 elem33 isError33


theorem check_above (F : Interp) (nm : ByteArray) (a b : Int) (w : World) (hF : F.answers w.tape) (ha : 100 < a) :
    Calls Tryf.prog 6 #[.string nm, .int .i64 a, .int .i64 b] w fun e w' => ∃ p, e = .returned (.iface 33 (.pointer (some p))) ∧ Below w.heap.size w w' := by
  have hF' := answers_open hF
  go_enter Tryf.func6, Tryf.ntmps6
  go_wp2
  go_ret
  exact ⟨_, rfl, (((Below.refl _ _).alloc (Nat.le_refl _) _).alloc (by simp) _).drew⟩
theorem check_below (F : Interp) (nm : ByteArray) (a b : Int) (w : World) (hF : F.answers w.tape) (ha : a ≤ 100) (hb : 99 < b) :
    Calls Tryf.prog 6 #[.string nm, .int .i64 a, .int .i64 b] w fun e w' => ∃ p, e = .returned (.iface 33 (.pointer (some p))) ∧ Below w.heap.size w w' := by
  have hF' := answers_open hF
  go_enter Tryf.func6, Tryf.ntmps6
  go_wp2
  go_ret
  exact ⟨_, rfl, (((Below.refl _ _).alloc (Nat.le_refl _) _).alloc (by simp) _).drew⟩
theorem check_ok (nm : ByteArray) (a b : Int) (w : World) (ha : a ≤ 100) (hb : b ≤ 99) :
    Calls Tryf.prog 6 #[.string nm, .int .i64 a, .int .i64 b] w fun e w' => e = .returned .nilIface ∧ w = w' := by
  go_enter Tryf.func6, Tryf.ntmps6
  go_wp2
  go_ret
  exact ⟨rfl, rfl⟩
/-- CheckDigits, whatever the counts: nil exactly within both bounds. -/
theorem check_any (F : Interp) (nm : ByteArray) (a b : Int) (w : World) (hF : F.answers w.tape) :
    Calls Tryf.prog 6 #[.string nm, .int .i64 a, .int .i64 b] w fun e w' => (∃ v, e = .returned v ∧ ((a ≤ 100 ∧ b ≤ 99 ∧ v = .nilIface) ∨ (¬ (a ≤ 100 ∧ b ≤ 99) ∧ ∃ p, v = .iface 33 (.pointer (some p))))) ∧ Below w.heap.size w w' := by
  by_cases h1 : a ≤ 100
  · by_cases h2 : b ≤ 99
    · refine (check_ok nm a b w h1 h2).mono ?_
      rintro e w' ⟨rfl, rfl⟩
      exact ⟨⟨_, rfl, .inl ⟨h1, h2, rfl⟩⟩, Below.refl _ _⟩
    · refine (check_below F nm a b w hF h1 (by omega)).mono ?_
      rintro e w' ⟨p, rfl, hb⟩
      exact ⟨⟨_, rfl, .inr ⟨by omega, p, rfl⟩⟩, hb⟩
  · refine (check_above F nm a b w hF (by omega)).mono ?_
    rintro e w' ⟨p, rfl, hb⟩
    exact ⟨⟨_, rfl, .inr ⟨by omega, p, rfl⟩⟩, hb⟩
theorem answers_below {F : Interp} {B : Nat} {w w' : World} (hF : F.answers w.tape) (hb : Below B w w') : F.answers w'.tape := by rw [hb.tape]; exact hF
theorem ret_bool {a b : Bool} (h : a = b) : Ending.returned (.bool a) = .returned (.bool b) := by rw [h]

theorem check_no (F : Interp) (nm : ByteArray) (a b : Int) (w : World) (hF : F.answers w.tape) (h : ¬ (a ≤ 100 ∧ b ≤ 99)) :
    Calls Tryf.prog 6 #[.string nm, .int .i64 a, .int .i64 b] w fun e w' => ∃ p, e = .returned (.iface 33 (.pointer (some p))) ∧ Below w.heap.size w w' := by
  by_cases h1 : a ≤ 100
  · exact check_below F nm a b w hF h1 (by omega)
  · exact check_above F nm a b w hF (by omega)
theorem within_yes (a b : Int) (w : World) (ha : 0 ≤ a) (hb : 0 ≤ b) (h1 : a ≤ 100) (h2 : b ≤ 99) :
    Calls Tryf.prog 10 #[.int .i64 a, .int .i64 b] w fun e w' => e = .returned (.bool true) ∧ w = w' := by
  have h1' : a - 1 ≤ 99 := by omega
  have h2' : -99 ≤ 0 - b := by omega
  go_enter Tryf.func10, Tryf.ntmps10
  go_wp2
  go_ret
  exact ⟨ret_bool (by simp), rfl⟩
theorem within_no (a b : Int) (w : World) (ha : 0 ≤ a) (hb : 0 ≤ b) (ha2 : a ≤ 9223372036854775807) (hb2 : b ≤ 9223372036854775807) (h : ¬ (a ≤ 100 ∧ b ≤ 99)) :
    Calls Tryf.prog 10 #[.int .i64 a, .int .i64 b] w fun e w' => e = .returned (.bool false) ∧ w = w' := by
  by_cases h1 : a ≤ 100
  · have h1' : a - 1 ≤ 99 := by omega
    have h2' : 99 < b := by omega
    clear h
    go_enter Tryf.func10, Tryf.ntmps10
    go_wp2
    go_ret
    exact ⟨ret_bool (by simp; omega), rfl⟩
  · have h1' : decide (a - 1 ≤ 99) = false := by simp; omega
    clear h
    go_enter Tryf.func10, Tryf.ntmps10
    go_wp2
    go_ret
    exact ⟨rfl, rfl⟩

end Go.Proofs.Qxb6630137aFmt
