/-
  Seat b6630161a: walks of zzRoleIsEmpty, slices.Clone.
-/
import Derived.Test.Qxb6630161aWalksD
namespace Go.Proofs.Qxb6630161a
open Go.RowKit

theorem roleIsEmpty (w : World) (a1 a2 a3 : Option Addr) (k1 k2 k3 : Nat) : Calls Try.prog 13 #[.agg #[.slice a1 0 k1, .slice a2 0 k2, .slice a3 0 k3]] w (Yes w) := by
  go_enter Try.func13, Try.ntmps13
  go_wp2
  go_ret
  exact ⟨rfl, (Below.refl _ _).alloc (Nat.le_refl _) _⟩

/-- what the call owns is a row. -/
theorem row_of_owns {w : World} {A : Nat} {e : TypeId} {v : Value} {n : Nat} {c : Nat → Value} (h : w.ownsRow A e 1 v n ((List.range n).map c)) : Row w A w.heap.size v n c := by
  have hlt := h.lt
  rcases h.2 with ⟨rfl, rfl⟩ | ⟨g, cap, cur, rfl, hg, _⟩
  · exact row_empty _ _ _ _ _ _
  · refine ⟨_, _, rfl, fun _ => ⟨g, 0, rfl, ⟨hg, (hlt g rfl).2⟩, fun i hi => ?_⟩⟩
    rw [Nat.zero_add, h.cellAt i (by omega)]
    simp [hi]

/-- 'append([]T{}, s...)' of one-cell elements, as one step of the walk. -/
theorem wpList_clone {w : World} {ops : Array Oper} {rest : List Oper} {o : Oper} {a : Act} {Q : Exit → Act → World → Prop} (hgd : o.guard = none) (s x : Operand) (t e : TypeId) (z : Value) (bytes : Nat)
    (ho : o.op = .call { callee := .builtin .append, args := #[s, x], argTypes := #[t, t] }) (ht : Try.prog.underlying t = some (.slice e))
    (hinfo : (Try.prog.info? e).map (fun i => (i.zero, i.size, i.bytes)) = some (some z, 1, bytes)) (hz : z.cells.size = 1) (hby : bytes ≤ 24)
    {n k : Nat} {ad : Addr} {c : Nat → Value} (hs : a.eval s = .slice (some ⟨w.heap.size, 0, none⟩) 0 0) (hx : a.eval x = .slice (some ad) n k) (hn : n ≤ 1048576)
    (hc : 0 < n → ∃ b o, ad = ⟨b, o, none⟩ ∧ b < w.heap.size ∧ ∀ i, i < n → w.cell? ⟨b, o + i, none⟩ = some (c i)) (h1 : ∀ i, i < n → (c i).oneCell' = true)
    (h : ∀ v' w', Row w' w.heap.size w'.heap.size v' n c → Below w.heap.size w w' → wpList Try.prog ops Q rest (a.put o.dst v') w') :
    wpList Try.prog ops Q (o :: rest) a (w.alloc (.cells #[] e)) := by
  obtain ⟨i0, hi, hz0, hz1, hz2⟩ := info_parts hinfo
  refine wpList_append_own _ hgd s x t ho w.heap.size e i0 z 1 bytes ht hi hz0 hz1 hz2 hz (by decide) _ 0 [] hs (World.ownsRow_lit w #[] 0 (Nat.le_refl _) (by unfold maxLen; omega) rfl) ad n k ((List.range n).map c) hx (by simp) ?_ ?_
    (by unfold maxLen; omega) ?_ (by simp) fun v' w' hown hgrow _ => ?_
  · intro j u hj
    obtain ⟨hjn, hju⟩ : j < n ∧ c j = u := by
      by_cases hjn : j < n
      · exact ⟨hjn, by simpa [hjn] using hj⟩
      · simp [hjn] at hj
    obtain ⟨b, o, rfl, hb, hcc⟩ := hc (by omega)
    rw [Addr.add_mid, World.cell?_alloc_lt _ _ _ hb, hcc j hjn, hju]
  · intro u hu
    obtain ⟨j, hj, rfl⟩ := List.mem_map.1 hu
    exact h1 j (List.mem_range.1 hj)
  · have : n * bytes ≤ 1048576 * 24 := Nat.mul_le_mul hn hby
    rw [Nat.zero_add]
    omega
  · rw [Nat.zero_add, List.nil_append] at hown
    exact h v' w' (row_of_owns hown) (((Below.refl _ _).alloc (Nat.le_refl _) _).grown hgrow (by simp) (fun j hj => by simp [Value.ownBlock] at hj; omega))

set_option maxRecDepth 100000 in
theorem clone30 (w : World) (B : Nat) (v : Value) (n : Nat) (c : Nat → Value) (hx : Row w 0 B v n c) (h1 : ∀ i, i < n → (c i).oneCell' = true) (hn : n ≤ 1048576) (hB : B ≤ w.heap.size) :
    Calls Try.prog 30 #[v] w fun e w' => ∃ v', e = .returned v' ∧ Row w' w.heap.size w'.heap.size v' n c ∧ Below w.heap.size w w' := by
  obtain ⟨ao, kk, rfl, hc⟩ := hx
  have hq := @Lib.run_eql_slice_nil Try.prog
  cases ao with
  | none =>
    go_enter Try.func30, Try.ntmps30
    go_wp2
    go_ret
    have hn : n = 0 := by
      rcases Nat.eq_zero_or_pos n with h | h
      · exact h
      · obtain ⟨b, o, h, _⟩ := hc h; cases h
    subst hn
    exact ⟨_, rfl, row_empty _ _ _ _ _ _, Below.refl _ _⟩
  | some a =>
    have HC : Hid (0 < n → ∃ b o, a = ⟨b, o, none⟩ ∧ b < w.heap.size ∧ ∀ i, i < n → w.cell? ⟨b, o + i, none⟩ = some (c i)) := show _ → _ from fun h => by
      obtain ⟨b, o, h1, h2, h3⟩ := hc h
      exact ⟨b, o, by simpa using h1, by omega, h3⟩
    have H1 : Hid (∀ i, i < n → (c i).oneCell' = true) := h1
    clear hc h1
    go_enter Try.func30, Try.ntmps30
    go_wp2_with (first | (at_builtin; refine wpList_clone rfl _ _ 28 37 _ 16 rfl Try.underlying28 Try.info37 rfl (by omega) rfl rfl hn HC.out H1.out ?_; intro v' w' hr hb))
    go_ret
    exact ⟨_, rfl, hr, hb⟩

set_option maxRecDepth 100000 in
theorem clone34 (w : World) (B : Nat) (v : Value) (n : Nat) (c : Nat → Value) (hx : Row w 0 B v n c) (h1 : ∀ i, i < n → (c i).oneCell' = true) (hn : n ≤ 1048576) (hB : B ≤ w.heap.size) :
    Calls Try.prog 34 #[v] w fun e w' => ∃ v', e = .returned v' ∧ Row w' w.heap.size w'.heap.size v' n c ∧ Below w.heap.size w w' := by
  obtain ⟨ao, kk, rfl, hc⟩ := hx
  have hq := @Lib.run_eql_slice_nil Try.prog
  cases ao with
  | none =>
    go_enter Try.func34, Try.ntmps34
    go_wp2
    go_ret
    have hn : n = 0 := by
      rcases Nat.eq_zero_or_pos n with h | h
      · exact h
      · obtain ⟨b, o, h, _⟩ := hc h; cases h
    subst hn
    exact ⟨_, rfl, row_empty _ _ _ _ _ _, Below.refl _ _⟩
  | some a =>
    have HC : Hid (0 < n → ∃ b o, a = ⟨b, o, none⟩ ∧ b < w.heap.size ∧ ∀ i, i < n → w.cell? ⟨b, o + i, none⟩ = some (c i)) := show _ → _ from fun h => by
      obtain ⟨b, o, h1, h2, h3⟩ := hc h
      exact ⟨b, o, by simpa using h1, by omega, h3⟩
    have H1 : Hid (∀ i, i < n → (c i).oneCell' = true) := h1
    clear hc h1
    go_enter Try.func34, Try.ntmps34
    go_wp2_with (first | (at_builtin; refine wpList_clone rfl _ _ 29 67 _ 24 rfl Try.underlying29 Try.info67 rfl (by omega) rfl rfl hn HC.out H1.out ?_; intro v' w' hr hb))
    go_ret
    exact ⟨_, rfl, hr, hb⟩

end Go.Proofs.Qxb6630161a
