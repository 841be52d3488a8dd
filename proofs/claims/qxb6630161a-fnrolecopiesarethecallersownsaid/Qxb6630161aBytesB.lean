/-
  Seat b6630161a: one of the two functions that bound the arguments' length.
-/
import Derived.Test.Qxb6630161aSmall
namespace Go.Proofs.Qxb6630161a
open Go.RowKit


set_option maxHeartbeats 8000000 in
set_option maxRecDepth 100000 in
theorem bytes15 (w : World) (B : Nat) (v : Value) (X : Sps) (q : ByteArray) (hx : Specs w 0 B v X) :
    Calls Try.prog 15 #[v, .string q] w (Small w X) := by
  obtain ⟨ao, kk, rfl, hc⟩ := hx
  obtain ⟨n, p⟩ := X
  simp only at hc ⊢
  by_cases hn : 1048576 < n
  · go_enter Try.func15, Try.ntmps15
    go_wp2
    go_ret
    exact smallNo rfl
  go_enter Try.func15, Try.ntmps15
  go_wp2
  try any_goals (go_ret; exact smallNo rfl)
  go_loopg [5, 6] n (fun g z i wr => ∃ (k : Nat) (r : Int), z = .int .i64 r ∧ i = .int .i64 k ∧ k ≤ n ∧ g = n - k ∧ w = wr ∧ Hid (∀ i, i < k → (p i).ok))
  case atStart => exact ⟨0, _, rfl, rfl, by omega, by omega, rfl, show ∀ i, _ from fun i hi => absurd hi (Nat.not_lt_zero i)⟩
  case round =>
    obtain ⟨k, r, rfl, rfl, hk, hg, rfl, HP⟩ := hrel
    by_cases hlt : k < n
    · obtain ⟨b, o, rfl, hb, hc'⟩ := hc (by omega)
      obtain ⟨vi, va, vd, g0, g1, g2, g3, hi, ha, hd⟩ := hc' k hlt
      simp only at g0 hi ha hd
      obtain ⟨pk, hpk⟩ : ∃ pk, pk = p k := ⟨_, rfl⟩
      rw [← hpk] at g0 hi ha hd
      have HPK : Hid (pk = p k) := hpk
      clear hc' hc hpk
      obtain ⟨nm, ⟨ni, si⟩, ⟨na, sa⟩, ⟨nd, sd⟩⟩ := pk
      obtain ⟨ai, ii, rfl, hci⟩ := hi
      obtain ⟨ca, ⟨aa, ia, rfl, hca⟩, hsa⟩ := ha
      obtain ⟨cd, ⟨ad, id, rfl, hcd⟩, hsd⟩ := hd
      simp only at g0 g1 g2 g3 hci hca hsa hcd hsd
      by_cases hsz : 1048576 < nm.size
      · go_wp2
        all_goals (go_ret; exact smallNo rfl)
      by_cases hni : 1048576 < ni
      · go_wp2
        all_goals (go_ret; exact smallNo rfl)
      go_wp2
      try any_goals (go_ret; exact smallNo rfl)
      go_loopg [5, 7] ni (fun g z i wr => ∃ (j : Nat) (r : Int), z = .int .i64 r ∧ i = .int .i64 j ∧ j ≤ ni ∧ g = ni - j ∧ w = wr)
      case atStart => exact ⟨0, _, rfl, rfl, by omega, by omega, rfl⟩
      case round =>
        obtain ⟨j, r1, rfl, rfl, hj, hgj, rfl⟩ := hrel
        by_cases hjl : j < ni
        · obtain ⟨b1, o1, rfl, hb1, hc1⟩ := hci (by omega)
          have g4 := hc1 j hjl
          generalize si j = sj at g4
          clear hc1 hci hca hcd hsa hsd
          by_cases hsj : 1048576 < sj.size
          · go_wp2
            all_goals (go_ret; exact smallNo rfl)
          go_wp2
          try any_goals (go_ret; exact smallNo rfl)
          go_roundg (ni - (j + 1))
          case measure => omega
          case rel => exact ⟨j + 1, _, rfl, by go_num, by omega, rfl, rfl⟩
        · obtain rfl : j = ni := by omega
          clear hci
          by_cases hna : 1048576 < na
          · go_wp2
            all_goals (go_ret; exact smallNo rfl)
          go_wp2
          try any_goals (go_ret; exact smallNo rfl)
          go_loopg [5, 8] na (fun g z i wr => ∃ (j : Nat) (r : Int), z = .int .i64 r ∧ i = .int .i64 j ∧ j ≤ na ∧ g = na - j ∧ w = wr ∧ Hid (∀ i, i < j → (sa i).ok))
          case atStart => exact ⟨0, _, rfl, rfl, by omega, by omega, rfl, show ∀ i, _ from fun i hi => absurd hi (Nat.not_lt_zero i)⟩
          case round =>
            obtain ⟨ja, r2, rfl, rfl, hja, hga, rfl, HA⟩ := hrel
            by_cases hjl : ja < na
            · obtain ⟨b1, o1, rfl, hb1, hc1⟩ := hca (by omega)
              have g4 := hc1 ja hjl
              obtain ⟨aj, ij, hcj, hcc⟩ := hsa ja hjl
              rw [hcj] at g4
              obtain ⟨sj, hsj⟩ : ∃ sj, sj = sa ja := ⟨_, rfl⟩
              rw [← hsj] at g4 hcc
              have HSJ : Hid (sj = sa ja) := hsj
              obtain ⟨nj, tj⟩ := sj
              simp only at g4 hcc
              clear hc1 hca hcd hsa hsd hcj hsj
              by_cases hnj : 1048576 < nj
              · go_wp2
                all_goals (go_ret; exact smallNo rfl)
              go_wp2
              try any_goals (go_ret; exact smallNo rfl)
              go_loopg [5, 9] nj (fun g z i wr => ∃ (m : Nat) (r : Int), z = .int .i64 r ∧ i = .int .i64 m ∧ m ≤ nj ∧ g = nj - m ∧ w = wr)
              case atStart => exact ⟨0, _, rfl, rfl, by omega, by omega, rfl⟩
              case round =>
                obtain ⟨m, r3, rfl, rfl, hm, hgm, rfl⟩ := hrel
                by_cases hml : m < nj
                · obtain ⟨b2, o2, rfl, hb2, hc2⟩ := hcc (by omega)
                  have g5 := hc2 m hml
                  generalize tj m = sm at g5
                  clear hc2 hcc
                  by_cases hsm : 1048576 < sm.size
                  · go_wp2
                    all_goals (go_ret; exact smallNo rfl)
                  go_wp2
                  try any_goals (go_ret; exact smallNo rfl)
                  go_roundg (nj - (m + 1))
                  case measure => omega
                  case rel => exact ⟨m + 1, _, rfl, by go_num, by omega, rfl, rfl⟩
                · obtain rfl : m = nj := by omega
                  clear hcc
                  go_wp2
                  go_roundg (na - (ja + 1))
                  case measure => omega
                  case rel =>
                    refine ⟨ja + 1, _, rfl, by go_num, by omega, rfl, rfl, show ∀ i, _ from fun i hi => ?_⟩
                    by_cases e : i = ja
                    · subst e; rw [← HSJ.out]; exact Nat.not_lt.1 hnj
                    · exact HA.out i (by omega)
            · obtain rfl : ja = na := by omega
              clear hca hsa
              by_cases hnd : 1048576 < nd
              · go_wp2
                all_goals (go_ret; exact smallNo rfl)
              go_wp2
              try any_goals (go_ret; exact smallNo rfl)
              go_loopg [5, 10] nd (fun g z i wr => ∃ (j : Nat) (r : Int), z = .int .i64 r ∧ i = .int .i64 j ∧ j ≤ nd ∧ g = nd - j ∧ w = wr ∧ Hid (∀ i, i < j → (sd i).ok))
              case atStart => exact ⟨0, _, rfl, rfl, by omega, by omega, rfl, show ∀ i, _ from fun i hi => absurd hi (Nat.not_lt_zero i)⟩
              case round =>
                obtain ⟨jd, r4, rfl, rfl, hjd, hgd, rfl, HD⟩ := hrel
                by_cases hjl : jd < nd
                · obtain ⟨b1, o1, rfl, hb1, hc1⟩ := hcd (by omega)
                  have g4 := hc1 jd hjl
                  obtain ⟨aj, ij, hcj, hcc⟩ := hsd jd hjl
                  rw [hcj] at g4
                  obtain ⟨sj, hsj⟩ : ∃ sj, sj = sd jd := ⟨_, rfl⟩
                  rw [← hsj] at g4 hcc
                  have HSJ : Hid (sj = sd jd) := hsj
                  obtain ⟨nj, tj⟩ := sj
                  simp only at g4 hcc
                  clear hc1 hcd hsd hcj hsj
                  by_cases hnj : 1048576 < nj
                  · go_wp2
                    all_goals (go_ret; exact smallNo rfl)
                  go_wp2
                  try any_goals (go_ret; exact smallNo rfl)
                  go_loopg [5, 11] nj (fun g z i wr => ∃ (m : Nat) (r : Int), z = .int .i64 r ∧ i = .int .i64 m ∧ m ≤ nj ∧ g = nj - m ∧ w = wr)
                  case atStart => exact ⟨0, _, rfl, rfl, by omega, by omega, rfl⟩
                  case round =>
                    obtain ⟨m, r3, rfl, rfl, hm, hgm, rfl⟩ := hrel
                    by_cases hml : m < nj
                    · obtain ⟨b2, o2, rfl, hb2, hc2⟩ := hcc (by omega)
                      have g5 := hc2 m hml
                      generalize tj m = sm at g5
                      clear hc2 hcc
                      by_cases hsm : 1048576 < sm.size
                      · go_wp2
                        all_goals (go_ret; exact smallNo rfl)
                      go_wp2
                      try any_goals (go_ret; exact smallNo rfl)
                      go_roundg (nj - (m + 1))
                      case measure => omega
                      case rel => exact ⟨m + 1, _, rfl, by go_num, by omega, rfl, rfl⟩
                    · obtain rfl : m = nj := by omega
                      clear hcc
                      go_wp2
                      go_roundg (nd - (jd + 1))
                      case measure => omega
                      case rel =>
                        refine ⟨jd + 1, _, rfl, by go_num, by omega, rfl, rfl, show ∀ i, _ from fun i hi => ?_⟩
                        by_cases e : i = jd
                        · subst e; rw [← HSJ.out]; exact Nat.not_lt.1 hnj
                        · exact HD.out i (by omega)
                · obtain rfl : jd = nd := by omega
                  clear hcd hsd
                  go_wp2
                  go_roundg (n - (k + 1))
                  case measure => omega
                  case rel =>
                    refine ⟨k + 1, _, rfl, by go_num, by omega, rfl, rfl, show ∀ i, _ from fun i hi => ?_⟩
                    by_cases e : i = k
                    · subst e
                      rw [← HPK.out]
                      exact ⟨Nat.not_lt.1 hni, ⟨Nat.not_lt.1 hna, HA.out⟩, ⟨Nat.not_lt.1 hnd, HD.out⟩⟩
                    · exact HP.out i (by omega)
    · obtain rfl : k = n := by omega
      go_wp2
      try any_goals (go_ret; exact smallNo rfl)
      go_ret
      exact ⟨_, rfl, fun _ => ⟨Nat.not_lt.1 hn, HP.out⟩, rfl⟩

end Go.Proofs.Qxb6630161a
