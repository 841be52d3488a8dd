/-
  Seat b6630151aF: closed facts of fmt.errorf's entry over this dump; notDecimal, zzAllDigits.
-/
import Derived.Test.Qxb6630151aFmtRows
import Derived.Test.Qxb6630151aFmtPlain
import Derived.Stop.CallBack
import Derived.Stop.IfaceNil
import GoSem.ClaimData
import Derived.WalkKit
import Derived.WalkSpells
import Derived.WalkLawsBesides
import Derived.BigQuiet
import Derived.Deep.QuietTactic
import Derived.Deep.LoopGhost
import Derived.Deep.DeepCutAuto
namespace Go.Proofs.Qxb6630151aFmt
open Go.RowKit Go.Extern.Stop Go.Stop Go.Extern

theorem call12 (args : Array Value) (w : World) : (callFunc 12 args).run Tryf.prog w = ((FmtStop.errorf #[9, 34] #[28] args).run Tryf.prog w).andThen fun v w' => .ok (.value v) w' :=
  run_callFunc_extern Tryf.func12 (by kernel_rfl) (by kernel_rfl) (by kernel_rfl) (by kernel_rfl) args w
theorem guard (name : String) (w : World) : (FmtStop.guard name).run Tryf.prog w = .ok () w := by kernel_rfl
theorem fmt0r (w : World) : (FmtDoors.printed ⟨#[37, 113, 32, 105, 115, 32, 110, 111, 116, 32, 97, 32, 100, 101, 99, 105, 109, 97, 108, 32, 110, 117, 109, 98, 101, 114, 32, 115, 117, 99, 104, 32, 97, 115, 32, 49, 50, 51, 52, 46, 53, 54]⟩ 1).run Tryf.prog w = .ok [(0, 113, false)] w := by kernel_rfl
theorem fmt0 : FmtStop.printed? ⟨#[37, 113, 32, 105, 115, 32, 110, 111, 116, 32, 97, 32, 100, 101, 99, 105, 109, 97, 108, 32, 110, 117, 109, 98, 101, 114, 32, 115, 117, 99, 104, 32, 97, 115, 32, 49, 50, 51, 52, 46, 53, 54]⟩ 1 = some [(0, 113, false)] := by kernel_rfl
def shape9 : List UInt8 := [12, 6, 0, 0, 0, 0, 0, 0, 0, 115, 116, 114, 105, 110, 103]
theorem op9 (name : String) (x : ByteArray) (w : World) : (FmtStop.operand name true 113 false (.iface 9 (.string x))).run Tryf.prog w = .ok (shape9, FmtStop.pack x.data.toList) w := by kernel_rfl
theorem op9' (name : String) (x : ByteArray) (w : World) : (FmtStop.operand name false 113 false (.iface 9 (.string x))).run Tryf.prog w = .ok (shape9, FmtStop.pack x.data.toList) w := by kernel_rfl
theorem ptr36 (w : World) : (FmtStop.ptrTo "errors.errorString").run Tryf.prog w = .ok 36 w := by kernel_rfl
theorem elem36 (w : World) : (elemOf 36).run Tryf.prog w = .ok 38 w := by kernel_rfl
theorem isError36 (w : World) : (FmtDoors.textMethod 36 "Error").run Tryf.prog w = .ok true w := by kernel_rfl
attribute [local go_sem] call12 guard fmt0r fmt0 op9 op9' ptr36 elem36 isError36

theorem notDecimal_any (F : Interp) (s : ByteArray) (w : World) (hF : F.answers w.tape) :
    Calls Tryf.prog 10 #[.string s] w fun e w' => ∃ p, e = .returned (.iface 36 (.pointer (some p))) ∧ Below w.heap.size w w' := by
  have hF' := answers_open hF
  go_enter Tryf.func10, Tryf.ntmps10
  go_wp2
  go_ret
  exact ⟨_, rfl, (((Below.refl _ _).alloc (Nat.le_refl _) _).alloc (by simp) _).drew⟩

theorem ret_bool {a b : Bool} (h : a = b) : Ending.returned (.bool a) = .returned (.bool b) := by rw [h]
theorem answers_below {F : Interp} {B : Nat} {w w' : World} (hF : F.answers w.tape) (hb : Below B w w') : F.answers w'.tape := by rw [hb.tape]; exact hF

/-- A string's bytes as numbers. -/
def bs (s : ByteArray) : List Int := s.data.toList.map fun c => (c.toNat : Int)
theorem bs_length (s : ByteArray) : (bs s).length = s.size := by simp [bs]
theorem bs_get (s : ByteArray) (k : Nat) (h : k < s.size) : (bs s).getD k 0 = (s[k].toNat : Int) := by
  simp [bs, List.getD_eq_getElem?_getD]
  rw [Array.getElem?_eq_getElem h]
  rfl

/-- zzAllDigits. -/
theorem digs_any (s : ByteArray) (w : World) (hs : s.size ≤ 100000000) :
    Calls Tryf.prog 9 #[.string s] w fun e w' => e = .returned (.bool (Plain.digs (bs s))) ∧ w = w' := by
  go_enter Tryf.func9, Tryf.ntmps9
  go_wp2
  go_loop [3] (fun i => ∃ k : Nat, k ≤ s.size ∧ i = .int .i64 k ∧ Hid (Plain.digs ((bs s).take k) = true)) (fun i => s.size - (intOf i).toNat)
  case atStart => exact ⟨0, by omega, rfl, rfl⟩
  case round =>
    obtain ⟨k, hk, rfl, HD⟩ := hrel
    by_cases hlt : k < s.size
    · have hget := bs_get s k hlt
      have hkl : k < (bs s).length := by rw [bs_length]; exact hlt
      by_cases hd : 48 ≤ (s[k].toNat : Int) ∧ (s[k].toNat : Int) ≤ 57
      · have HN : Hid (Plain.digs ((bs s).take (k + 1)) = true) := by
          show _ = _
          rw [Plain.take_snoc _ _ hkl, Plain.digs_append, HD.out, hget]
          simp [Plain.digs, Plain.isDig, hd]
        obtain ⟨hd1, hd2⟩ := hd
        clear hget hkl HD
        go_wp2
        go_round
        case rel => exact ⟨k + 1, by omega, by go_num, HN⟩
        case measure => simp [intOf]; omega
      · have HN : Hid (Plain.digs (bs s) = false) := by
          show _ = _
          have h1 : Plain.isDig ((bs s).getD k 0) = false := by rw [hget, Plain.isDig_not]; exact hd
          have h2 : (bs s).getD k 0 ∈ bs s := by
            rw [List.getD_eq_getElem?_getD, List.getElem?_eq_getElem hkl]
            exact List.getElem_mem hkl
          rw [Plain.digs, List.all_eq_false]
          exact ⟨_, h2, by rw [h1]; simp⟩
        clear hget hkl HD
        by_cases hd1 : (s[k].toNat : Int) < 48
        · go_wp2
          go_ret
          exact ⟨ret_bool HN.out.symm, rfl⟩
        · have hd2 : 57 < (s[k].toNat : Int) := by omega
          go_wp2
          go_ret
          exact ⟨ret_bool HN.out.symm, rfl⟩
    · have HN : Hid (Plain.digs (bs s) = true) := by
        show _ = _
        have h := HD.out
        rw [List.take_of_length_le (by rw [bs_length]; omega)] at h
        exact h
      clear HD
      go_wp2
      go_ret
      exact ⟨ret_bool HN.out.symm, rfl⟩

end Go.Proofs.Qxb6630151aFmt
