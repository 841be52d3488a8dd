/-
  Seat b6630161a: walks of zzLastIndex, zzAddStrings, zzAddGrants, zzGrantsWellFormed, zzTooBig, zzWellFormed.
-/
import Derived.Test.Qxb6630161aWalksB
namespace Go.Proofs.Qxb6630161a
open Go.RowKit

theorem bytes_eq (a : ByteArray) : (a.toList == a.toList) = true := by simp
theorem bytes_ne {a b : ByteArray} (h : a ≠ b) : (a.toList == b.toList) = false := by
  cases hh : (a.toList == b.toList) with
  | false => rfl
  | true =>
    rw [ByteArray.toList_eq, ByteArray.toList_eq] at hh
    have h1 : a.data.toList = b.data.toList := by simpa using hh
    exact absurd (by cases a; cases b; simp only at h1; rw [Array.toList_inj.1 h1]) h

/-- r is the last place at which the specs bear the name q, or -1. -/
def Last (X : Sps) (q : ByteArray) (r : Int) : Prop :=
  (r = -1 ∧ ∀ i, i < X.n → (X.p i).name ≠ q) ∨ ∃ j : Nat, r = j ∧ j < X.n ∧ (X.p j).name = q ∧ ∀ i, j < i → i < X.n → (X.p i).name ≠ q

set_option maxHeartbeats 2000000 in
set_option maxRecDepth 100000 in
theorem lastIndex (w : World) (B : Nat) (v : Value) (X : Sps) (q : ByteArray) (hx : Specs w 0 B v X) (hok : X.n ≤ 1048576) :
    Calls Try.prog 12 #[v, .string q] w fun e w' => ∃ r : Int, e = .returned (.int .i64 r) ∧ Last X q r ∧ w = w' := by
  obtain ⟨ao, kk, rfl, hc⟩ := hx
  obtain ⟨n, p⟩ := X
  simp only at hc hok ⊢
  go_enter Try.func12, Try.ntmps12
  go_wp2
  go_loopg [5] n (fun g i wr => ∃ r : Int, i = .int .i64 r ∧ -1 ≤ r ∧ r < n ∧ r + 1 ≤ g ∧ w = wr ∧ Hid (∀ i, r < (i : Nat) → i < n → (p i).name ≠ q))
  case atStart => exact ⟨(n : Int) - 1, rfl, by omega, by omega, by omega, rfl, show ∀ i, _ from fun i h1 h2 => by omega⟩
  case round =>
    obtain ⟨r, rfl, hr1, hr2, hg, rfl, H⟩ := hrel
    by_cases hlt : 0 ≤ r
    · obtain ⟨k, rfl⟩ : ∃ k : Nat, r = k := ⟨r.toNat, by omega⟩
      have hkn : k < n := by omega
      obtain ⟨b, o, rfl, hb, hc'⟩ := hc (by omega)
      obtain ⟨vi, va, vd, g0, -, -, -, -⟩ := hc' k hkn
      simp only at g0
      generalize hnm : (p k).name = nm at g0
      have HN : Hid ((p k).name = nm) := hnm
      clear hc' hc hnm
      by_cases he : nm = q
      · subst he
        have he' := bytes_eq nm
        go_wp2
        go_ret
        exact ⟨_, rfl, .inr ⟨k, rfl, hkn, HN.out, fun i h1 h2 => H.out i (by omega) h2⟩, rfl⟩
      · have he' := bytes_ne he
        have HE : Hid (nm ≠ q) := he
        clear he
        go_wp2
        go_roundg (gk - 1)
        case measure => omega
        case rel =>
          refine ⟨(k : Int) - 1, by go_num, by omega, by omega, by omega, rfl, show ∀ i, _ from fun i h1 h2 => ?_⟩
          by_cases e : i = k
          · subst e; rw [HN.out]; exact HE.out
          · exact H.out i (by omega) h2
    · obtain rfl : r = -1 := by omega
      go_wp2
      go_ret
      exact ⟨_, rfl, .inl ⟨rfl, fun i hi => H.out i (by omega) hi⟩, rfl⟩
/-- some int, and the world as it was. -/
def AnyInt (w : World) (e : Ending) (w' : World) : Prop := ∃ r : Int, e = .returned (.int .i64 r) ∧ w = w'
/-- some bool, and the world as it was. -/
def AnyBool (w : World) (e : Ending) (w' : World) : Prop := ∃ r : Bool, e = .returned (.bool r) ∧ w = w'
theorem anyInt {w : World} {e : Ending} {r : Int} (h : e = .returned (.int .i64 r)) : AnyInt w e w := ⟨r, h, rfl⟩
theorem anyBool {w : World} {e : Ending} {r : Bool} (h : e = .returned (.bool r)) : AnyBool w e w := ⟨r, h, rfl⟩

set_option maxHeartbeats 2000000 in
set_option maxRecDepth 100000 in
theorem addStrings (w : World) (B : Nat) (t : Int) (v : Value) (X : Str) (hx : Strs w 0 B v X) :
    Calls Try.prog 17 #[.int .i64 t, v] w (AnyInt w) := by
  obtain ⟨n, S⟩ := X
  obtain ⟨ao, kk, rfl, hc⟩ := hx
  simp only at hc ⊢
  by_cases hbig : 131072 < n
  · go_enter Try.func17, Try.ntmps17
    go_wp2
    go_ret
    exact anyInt rfl
  · go_enter Try.func17, Try.ntmps17
    go_wp2
    go_loopg [0, 5] n (fun g tt i wr => ∃ (k : Nat) (r : Int), tt = .int .i64 r ∧ i = .int .i64 k ∧ k ≤ n ∧ g = n - k ∧ w = wr)
    case atStart => exact ⟨0, _, rfl, rfl, by omega, by omega, rfl⟩
    case round =>
      obtain ⟨k, r, rfl, rfl, hk, hg, rfl⟩ := hrel
      by_cases hlt : k < n
      · by_cases hr : r ≤ 1048576
        · obtain ⟨b, o, rfl, hb, hc'⟩ := hc (by omega)
          have g1 := hc' k hlt
          generalize S k = sk at g1
          clear hc' hc
          by_cases hsz : 1048576 < sk.size
          · go_wp2
            go_ret
            exact anyInt rfl
          · go_wp2
            go_roundg (gk - 1)
            case measure => omega
            case rel => exact ⟨k + 1, _, rfl, by go_num, by omega, by omega, rfl⟩
        · go_wp2
          go_ret
          exact anyInt rfl
      · obtain rfl : k = n := by omega
        go_wp2
        go_ret
        exact anyInt rfl

set_option maxHeartbeats 2000000 in
set_option maxRecDepth 100000 in
theorem addGrants (w : World) (B : Nat) (t : Int) (v : Value) (X : Grs) (hx : Grants w 0 0 B B v X) :
    Calls Try.prog 18 #[.int .i64 t, v] w (AnyInt w) := by
  obtain ⟨n, S⟩ := X
  obtain ⟨C, ⟨ao, kk, rfl, hc⟩, hS⟩ := hx
  simp only at hc hS ⊢
  by_cases hbig : 131072 < n
  · go_enter Try.func18, Try.ntmps18
    go_wp2
    go_ret
    exact anyInt rfl
  · go_enter Try.func18, Try.ntmps18
    go_wp2
    go_loopg [0, 5] n (fun g tt i wr => ∃ (k : Nat) (r : Int), tt = .int .i64 r ∧ i = .int .i64 k ∧ k ≤ n ∧ g = n - k ∧ w = wr)
    case atStart => exact ⟨0, _, rfl, rfl, by omega, by omega, rfl⟩
    case round =>
      obtain ⟨k, r, rfl, rfl, hk, hg, rfl⟩ := hrel
      by_cases hlt : k < n
      · by_cases hr : r ≤ 1048576
        · obtain ⟨b, o, rfl, hb, hc'⟩ := hc (by omega)
          have g1 := hc' k hlt
          have HS := hS k hlt
          generalize C k = sk at g1 HS
          generalize S k = sX at HS
          clear hc' hc hS
          go_wp2_with fail
          refine (addStrings _ B _ _ sX HS).mono ?_
          rintro e w1 ⟨r1, rfl, rfl⟩
          go_wp2
          go_roundg (gk - 1)
          case measure => omega
          case rel => exact ⟨k + 1, _, rfl, by go_num, by omega, by omega, rfl⟩
        · go_wp2
          go_ret
          exact anyInt rfl
      · obtain rfl : k = n := by omega
        go_wp2
        go_ret
        exact anyInt rfl

set_option maxHeartbeats 2000000 in
set_option maxRecDepth 100000 in
theorem grantsWellFormed (w : World) (B : Nat) (v : Value) (X : Grs) (hx : Grants w 0 0 B B v X) (hok : X.n ≤ 1048576) :
    Calls Try.prog 19 #[v] w (AnyBool w) := by
  obtain ⟨n, S⟩ := X
  obtain ⟨C, ⟨ao, kk, rfl, hc⟩, hS⟩ := hx
  simp only at hc hS hok ⊢
  go_enter Try.func19, Try.ntmps19
  go_wp2
  go_loopg [3] n (fun g i wr => ∃ (k : Nat), i = .int .i64 k ∧ k ≤ n ∧ g = n - k ∧ w = wr)
  case atStart => exact ⟨0, rfl, by omega, by omega, rfl⟩
  case round =>
    obtain ⟨k, rfl, hk, hg, rfl⟩ := hrel
    by_cases hlt : k < n
    · obtain ⟨b, o, rfl, hb, hc'⟩ := hc (by omega)
      have g1 := hc' k hlt
      obtain ⟨a1, k1, hck⟩ := (hS k hlt).form
      rw [hck] at g1
      generalize (S k).n = sk at g1
      clear hc' hc hS hck
      by_cases hz : sk = 0
      · subst hz
        go_wp2
        go_ret
        exact anyBool rfl
      · have hz' : ((sk : Int) == 0) = false := by simp; omega
        go_wp2
        go_roundg (gk - 1)
        case measure => omega
        case rel => exact ⟨k + 1, by go_num, by omega, by omega, rfl⟩
    · obtain rfl : k = n := by omega
      go_wp2
      go_ret
      exact anyBool rfl

set_option maxHeartbeats 4000000 in
set_option maxRecDepth 100000 in
theorem tooBig (w : World) (B : Nat) (v : Value) (X : Sps) (q : ByteArray) (hx : Specs w 0 B v X) :
    Calls Try.prog 6 #[v, .string q] w (AnyBool w) := by
  obtain ⟨ao, kk, rfl, hc⟩ := hx
  obtain ⟨n, p⟩ := X
  simp only at hc ⊢
  by_cases hq : 1048576 < q.size
  · go_enter Try.func6, Try.ntmps6
    go_wp2
    go_ret
    exact anyBool rfl
  by_cases hn : 131072 < n
  · go_enter Try.func6, Try.ntmps6
    go_wp2
    go_ret
    exact anyBool rfl
  go_enter Try.func6, Try.ntmps6
  go_wp2
  go_loopg [5, 6] n (fun g tt i wr => ∃ (k : Nat) (r : Int), tt = .int .i64 r ∧ i = .int .i64 k ∧ k ≤ n ∧ g = n - k ∧ w = wr)
  case atStart => exact ⟨0, _, rfl, rfl, by omega, by omega, rfl⟩
  case round =>
    obtain ⟨k, r, rfl, rfl, hk, hg, rfl⟩ := hrel
    by_cases hlt : k < n
    · by_cases hr : r ≤ 1048576
      · obtain ⟨b, o, rfl, hb, hc'⟩ := hc (by omega)
        obtain ⟨vi, va, vd, g0, g1, g2, g3, hi, ha, hd⟩ := hc' k hlt
        simp only at g0 hi ha hd
        generalize (p k).name = nm at g0
        generalize (p k).inh = XI at hi
        generalize (p k).allow = XA at ha
        generalize (p k).deny = XD at hd
        clear hc' hc
        by_cases hsz : 1048576 < nm.size
        · go_wp2
          go_ret
          exact anyBool rfl
        · go_wp2_with (first
            | (go_at_call_of 17 vi; refine (addStrings _ B _ _ XI hi).mono ?_; rintro e w1 ⟨r1, rfl, rfl⟩)
            | (go_at_call_of 18 va; refine (addGrants _ B _ _ XA ha).mono ?_; rintro e w1 ⟨r1, rfl, rfl⟩)
            | (go_at_call_of 18 vd; refine (addGrants _ B _ _ XD hd).mono ?_; rintro e w1 ⟨r1, rfl, rfl⟩))
          all_goals first
            | (go_ret; exact anyBool rfl)
            | (go_roundg (gk - 1)
               case measure => omega
               case rel => exact ⟨k + 1, _, rfl, by go_num, by omega, by omega, rfl⟩)
      · go_wp2
        go_ret
        exact anyBool rfl
    · obtain rfl : k = n := by omega
      go_wp2
      go_ret
      exact anyBool rfl

set_option maxHeartbeats 4000000 in
set_option maxRecDepth 100000 in
theorem wellFormed (w : World) (B : Nat) (v : Value) (X : Sps) (hx : Specs w 0 B v X) (hok : X.ok) :
    Calls Try.prog 7 #[v] w (AnyBool w) := by
  obtain ⟨ao, kk, rfl, hc⟩ := hx
  obtain ⟨n, p⟩ := X
  obtain ⟨hn, hps⟩ := hok
  simp only at hc hn hps ⊢
  go_enter Try.func7, Try.ntmps7
  go_wp2
  go_loopg [3] n (fun g i wr => ∃ (k : Nat), i = .int .i64 k ∧ k ≤ n ∧ g = n - k ∧ w = wr)
  case atStart => exact ⟨0, rfl, by omega, by omega, rfl⟩
  case round =>
    obtain ⟨k, rfl, hk, hg, rfl⟩ := hrel
    by_cases hlt : k < n
    · obtain ⟨b, o, rfl, hb, hc'⟩ := hc (by omega)
      obtain ⟨vi, va, vd, g0, g1, g2, g3, hi, ha, hd⟩ := hc' k hlt
      obtain ⟨ki, ka, kd⟩ := hps k hlt
      simp only at g0 hi ha hd
      generalize (p k).name = nm at g0
      generalize (p k).inh = XI at hi ki
      generalize (p k).allow = XA at ha ka
      generalize (p k).deny = XD at hd kd
      clear hc' hc hps
      obtain ⟨ni, si⟩ := XI
      obtain ⟨ai, ii, rfl, hci⟩ := hi
      unfold Str.ok at ki
      simp only at g1 ki hci
      have hka := ka.1
      have hkd := kd.1
      go_wp2
      · go_ret
        exact anyBool rfl
      · go_loopg [4] ni (fun g i wr => ∃ (j : Nat), i = .int .i64 j ∧ j ≤ ni ∧ g = ni - j ∧ w = wr)
        case atStart => exact ⟨0, rfl, by omega, by omega, rfl⟩
        case round =>
          rename_i gj
          obtain ⟨j, rfl, hj, hgj, rfl⟩ := hrel
          by_cases hjl : j < ni
          · obtain ⟨b1, o1, rfl, hb1, hc1⟩ := hci (by omega)
            have g4 := hc1 j hjl
            generalize si j = sj at g4
            clear hc1 hci
            go_wp2
            · go_ret
              exact anyBool rfl
            · go_roundg (gk - 1)
              case measure => omega
              case rel => exact ⟨j + 1, by go_num, by omega, by omega, rfl⟩
          · obtain rfl : j = ni := by omega
            clear hci
            go_wp2_with fail
            refine (grantsWellFormed _ B _ XA ha hka).mono ?_
            rintro e w1 ⟨r1, rfl, rfl⟩
            cases r1 with
            | false =>
              go_wp2
              go_ret
              exact anyBool rfl
            | true =>
              go_wp2_with fail
              refine (grantsWellFormed _ B _ XD hd hkd).mono ?_
              rintro e w1 ⟨r1, rfl, rfl⟩
              cases r1 with
              | false =>
                go_wp2
                go_ret
                exact anyBool rfl
              | true =>
                go_wp2
                go_roundg (n - (k + 1))
                case measure => omega
                case rel => exact ⟨k + 1, by go_num, by omega, rfl, rfl⟩
    · obtain rfl : k = n := by omega
      go_wp2
      go_ret
      exact anyBool rfl
end Go.Proofs.Qxb6630161a
