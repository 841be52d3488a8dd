/-
  Seat b6630161a: the copies that Role hands back may be written: the contracts of the copiers with that word.
-/
import Derived.Test.Qxb6630161aScribble
namespace Go.Proofs.Qxb6630161a
open Go.RowKit

theorem softSet2 {W : World} {v : Value} {p q : Addr} {x y : Value} (h : Soft W W.heap.size v) : Soft ((W.setCell p x).setCell q y) ((W.setCell p x).setCell q y).heap.size v := by
  have := (h.setCell p x).setCell q y
  simpa using this
theorem softSet3 {W : World} {v : Value} {p q r : Addr} {x y z : Value} (h : Soft W W.heap.size v) : Soft (((W.setCell p x).setCell q y).setCell r z) (((W.setCell p x).setCell q y).setCell r z).heap.size v := by
  have := ((h.setCell p x).setCell q y).setCell r z
  simpa using this
theorem soft_of_owns {w : World} {A : Nat} {e : TypeId} {v : Value} {n : Nat} {xs : List Value} (h : w.ownsRow A e 1 v n xs) : Soft w w.heap.size v := by
  have hlt := h.lt
  rcases h.2 with ⟨rfl, rfl⟩ | ⟨g, cap, cur, rfl, hg, _⟩
  · exact soft_nil _ _
  · exact ⟨_, _, _, rfl, fun _ => ⟨g, 0, rfl, (hlt g rfl).2, fun i _ => h.frozenAt (0 + i)⟩⟩

/-- 'append([]T{}, s...)' of one-cell elements, as one step of the walk. -/
theorem wpList_cloneS {w : World} {ops : Array Oper} {rest : List Oper} {o : Oper} {a : Act} {Q : Exit → Act → World → Prop} (hgd : o.guard = none) (s x : Operand) (t e : TypeId) (z : Value) (bytes : Nat)
    (ho : o.op = .call { callee := .builtin .append, args := #[s, x], argTypes := #[t, t] }) (ht : Try.prog.underlying t = some (.slice e))
    (hinfo : (Try.prog.info? e).map (fun i => (i.zero, i.size, i.bytes)) = some (some z, 1, bytes)) (hz : z.cells.size = 1) (hby : bytes ≤ 24)
    {n k : Nat} {ad : Addr} {c : Nat → Value} (hs : a.eval s = .slice (some ⟨w.heap.size, 0, none⟩) 0 0) (hx : a.eval x = .slice (some ad) n k) (hn : n ≤ 1048576)
    (hc : 0 < n → ∃ b o, ad = ⟨b, o, none⟩ ∧ b < w.heap.size ∧ ∀ i, i < n → w.cell? ⟨b, o + i, none⟩ = some (c i)) (h1 : ∀ i, i < n → (c i).oneCell' = true)
    (h : ∀ v' w', Row w' w.heap.size w'.heap.size v' n c → Soft w' w'.heap.size v' → Below w.heap.size w w' → wpList Try.prog ops Q rest (a.put o.dst v') w') :
    wpList Try.prog ops Q (o :: rest) a (w.alloc (.cells #[] e)) := by
  obtain ⟨i0, hi, hz0, hz1, hz2⟩ := info_parts hinfo
  refine wpList_append_own _ hgd s x t ho w.heap.size e i0 z 1 bytes ht hi hz0 hz1 hz2 hz (by decide) _ 0 [] hs (World.ownsRow_lit w #[] 0 (Nat.le_refl _) (by unfold maxLen; omega) rfl) ad n k ((List.range n).map c) hx (by simp) ?_ ?_
    (by unfold maxLen; omega) ?_ (by simp) fun v' w' hown hgrow _ => ?_
  · intro j u hj
    obtain ⟨hjn, hju⟩ : j < n ∧ c j = u := by
      by_cases hjn : j < n
      · exact ⟨hjn, by simpa [hjn] using hj⟩
      · simp [hjn] at hj
    obtain ⟨b, o, rfl, hb, hcc⟩ := hc (by omega)
    rw [Addr.add_mid, World.cell?_alloc_lt _ _ _ hb, hcc j hjn, hju]
  · intro u hu
    obtain ⟨j, hj, rfl⟩ := List.mem_map.1 hu
    exact h1 j (List.mem_range.1 hj)
  · have : n * bytes ≤ 1048576 * 24 := Nat.mul_le_mul hn hby
    rw [Nat.zero_add]
    omega
  · rw [Nat.zero_add, List.nil_append] at hown
    exact h v' w' (row_of_owns hown) (soft_of_owns hown) (((Below.refl _ _).alloc (Nat.le_refl _) _).grown hgrow (by simp) (fun j hj => by simp [Value.ownBlock] at hj; omega))

set_option maxRecDepth 100000 in
theorem clone30S (w : World) (B : Nat) (v : Value) (n : Nat) (c : Nat → Value) (hx : Row w 0 B v n c) (h1 : ∀ i, i < n → (c i).oneCell' = true) (hn : n ≤ 1048576) (hB : B ≤ w.heap.size) :
    Calls Try.prog 30 #[v] w fun e w' => ∃ v', e = .returned v' ∧ Row w' w.heap.size w'.heap.size v' n c ∧ Soft w' w'.heap.size v' ∧ Below w.heap.size w w' := by
  obtain ⟨ao, kk, rfl, hc⟩ := hx
  have hq := @Lib.run_eql_slice_nil Try.prog
  cases ao with
  | none =>
    go_enter Try.func30, Try.ntmps30
    go_wp2
    go_ret
    have hn : n = 0 := by
      rcases Nat.eq_zero_or_pos n with h | h
      · exact h
      · obtain ⟨b, o, h, _⟩ := hc h; cases h
    subst hn
    exact ⟨_, rfl, row_empty _ _ _ _ _ _, ⟨_, _, _, rfl, fun h => absurd h (Nat.lt_irrefl 0)⟩, Below.refl _ _⟩
  | some a =>
    have HC : Hid (0 < n → ∃ b o, a = ⟨b, o, none⟩ ∧ b < w.heap.size ∧ ∀ i, i < n → w.cell? ⟨b, o + i, none⟩ = some (c i)) := show _ → _ from fun h => by
      obtain ⟨b, o, h1, h2, h3⟩ := hc h
      exact ⟨b, o, by simpa using h1, by omega, h3⟩
    have H1 : Hid (∀ i, i < n → (c i).oneCell' = true) := h1
    clear hc h1
    go_enter Try.func30, Try.ntmps30
    go_wp2_with (first | (at_builtin; refine wpList_cloneS rfl _ _ 28 37 _ 16 rfl Try.underlying28 Try.info37 rfl (by omega) rfl rfl hn HC.out H1.out ?_; intro v' w' hr hsf hb))
    go_ret
    exact ⟨_, rfl, hr, hsf, hb⟩

set_option maxRecDepth 100000 in
theorem clone34S (w : World) (B : Nat) (v : Value) (n : Nat) (c : Nat → Value) (hx : Row w 0 B v n c) (h1 : ∀ i, i < n → (c i).oneCell' = true) (hn : n ≤ 1048576) (hB : B ≤ w.heap.size) :
    Calls Try.prog 34 #[v] w fun e w' => ∃ v', e = .returned v' ∧ Row w' w.heap.size w'.heap.size v' n c ∧ Soft w' w'.heap.size v' ∧ Below w.heap.size w w' := by
  obtain ⟨ao, kk, rfl, hc⟩ := hx
  have hq := @Lib.run_eql_slice_nil Try.prog
  cases ao with
  | none =>
    go_enter Try.func34, Try.ntmps34
    go_wp2
    go_ret
    have hn : n = 0 := by
      rcases Nat.eq_zero_or_pos n with h | h
      · exact h
      · obtain ⟨b, o, h, _⟩ := hc h; cases h
    subst hn
    exact ⟨_, rfl, row_empty _ _ _ _ _ _, ⟨_, _, _, rfl, fun h => absurd h (Nat.lt_irrefl 0)⟩, Below.refl _ _⟩
  | some a =>
    have HC : Hid (0 < n → ∃ b o, a = ⟨b, o, none⟩ ∧ b < w.heap.size ∧ ∀ i, i < n → w.cell? ⟨b, o + i, none⟩ = some (c i)) := show _ → _ from fun h => by
      obtain ⟨b, o, h1, h2, h3⟩ := hc h
      exact ⟨b, o, by simpa using h1, by omega, h3⟩
    have H1 : Hid (∀ i, i < n → (c i).oneCell' = true) := h1
    clear hc h1
    go_enter Try.func34, Try.ntmps34
    go_wp2_with (first | (at_builtin; refine wpList_cloneS rfl _ _ 29 67 _ 24 rfl Try.underlying29 Try.info67 rfl (by omega) rfl rfl hn HC.out H1.out ?_; intro v' w' hr hsf hb))
    go_ret
    exact ⟨_, rfl, hr, hsf, hb⟩


theorem end25b {w W2 W : World} {g m : Nat} {x y z : Value} (hbw : Below g w W2) (hT : TB g m W2 W) : Below g w (((W.setCell ⟨g + 1, 0, none⟩ x).setCell ⟨g + 1, 1, none⟩ y).setCell ⟨g + 1, 2, none⟩ z) := by
  have hb : ∀ (V : World) (j : Nat) (u : Value), Below g w V → Below g w (V.setCell ⟨g + 1, j, none⟩ u) := fun V j u h => h.setCell (by show g ≤ g + 1; omega) u
  exact hb _ _ _ (hb _ _ _ (hb _ _ _ (hbw.trans (hT.bel.mono (by omega)))))

theorem cloneGS (w : World) (J B : Nat) (v : Value) (X : Grs) (hx : Grants w 0 0 J B v X) (hok : X.n ≤ 1048576) (hB : B ≤ w.heap.size) (hJ : J ≤ w.heap.size) :
    Calls Try.prog 34 #[v] w fun e w' => ∃ v', e = .returned v' ∧ Grants w' w.heap.size 0 J w'.heap.size v' X ∧ Soft w' w'.heap.size v' ∧ Below w.heap.size w w' := by
  obtain ⟨c, h1, h2⟩ := hx
  refine (clone34S w B v X.n c h1 (fun i hi => ?_) hok hB).mono ?_
  · obtain ⟨a, k, e⟩ := (h2 i hi).form
    rw [e]; rfl
  · rintro e w' ⟨v', rfl, hr, hsf, hb⟩
    exact ⟨v', rfl, ⟨c, hr, fun i hi => (h2 i hi).below hb hJ⟩, hsf, hb⟩
theorem cloneNS (w : World) (B : Nat) (v : Value) (X : Str) (hx : Strs w 0 B v X) (hok : X.n ≤ 1048576) (hB : B ≤ w.heap.size) :
    Calls Try.prog 30 #[v] w fun e w' => ∃ v', e = .returned v' ∧ Strs w' w.heap.size w'.heap.size v' X ∧ Soft w' w'.heap.size v' ∧ Below w.heap.size w w' :=
  clone30S w B v X.n _ hx (fun _ _ => rfl) hok hB

set_option maxHeartbeats 4000000 in
set_option maxRecDepth 100000 in
theorem grantsCloneS (w : World) (J B : Nat) (va vd : Value) (XA XD : Grs) (ha : Grants w 0 0 J B va XA) (hd : Grants w 0 0 J B vd XD) (ka : XA.n ≤ 1048576) (kd : XD.n ≤ 1048576) (hB : B ≤ w.heap.size) (hJ : J ≤ w.heap.size) :
    Calls Try.prog 31 #[.agg #[va, vd]] w fun e w' => ∃ va' vd', e = .returned (.agg #[va', vd']) ∧ Grants w' w.heap.size 0 J w'.heap.size va' XA ∧ Grants w' w.heap.size 0 J w'.heap.size vd' XD ∧ (Soft w' w'.heap.size va' ∧ Soft w' w'.heap.size vd') ∧ Below w.heap.size w w' := by
  obtain ⟨aa, ja, rfl⟩ := ha.form
  obtain ⟨ad, jd, rfl⟩ := hd.form
  have HKA : Hid (XA.n ≤ 1048576) := ka
  have HKD : Hid (XD.n ≤ 1048576) := kd
  clear ka kd
  generalize XA.n = na at ha ⊢
  generalize XD.n = nd at hd ⊢
  go_enter Try.func31, Try.ntmps31
  go_upto_region 1 with fail
  have hT := TB.first w #[.slice aa na ja, .slice ad nd jd] #[.slice none 0 0, .slice none 0 0] 31 31
  obtain ⟨W2, hW2⟩ : ∃ W2, W2 = (w.alloc (Obj.cells #[.slice aa na ja, .slice ad nd jd] 31)).alloc (Obj.cells #[Value.slice none 0 0, Value.slice none 0 0] 31) := ⟨_, rfl⟩
  rw [← hW2]
  rw [← hW2] at hT
  have c1 : W2.cell? ⟨w.heap.size, 0, none⟩ = some (.slice aa na ja) := by rw [hW2]; simp
  have c2 : W2.cell? ⟨w.heap.size, 1, none⟩ = some (.slice ad nd jd) := by rw [hW2]; simp
  have hbw : Below w.heap.size w W2 := by rw [hW2]; exact ((Below.refl _ _).alloc (Nat.le_refl _) _).alloc (by simp) _
  clear hW2
  have hT : TB w.heap.size 2 W2 W2 := hT
  have mk : ∀ W, TB w.heap.size 2 W2 W → (W.cell? ⟨w.heap.size, 0, none⟩ = some (.slice aa na ja) ∧ W.cell? ⟨w.heap.size, 1, none⟩ = some (.slice ad nd jd) ∧ W.cell? ⟨w.heap.size + 1, 0, none⟩ = some (cellOf W (w.heap.size + 1) 0) ∧ W.cell? ⟨w.heap.size + 1, 1, none⟩ = some (cellOf W (w.heap.size + 1) 1) ∧ W.frozen? ⟨w.heap.size + 1, 0, none⟩ = false ∧ W.frozen? ⟨w.heap.size + 1, 1, none⟩ = false ∧ TB w.heap.size 2 W2 W) := fun W h =>
      ⟨(h.bel.cell (by show w.heap.size < _; omega)).trans c1, (h.bel.cell (by show w.heap.size < _; omega)).trans c2, (cellOf_there h.res 0 (by omega)).1, (cellOf_there h.res 1 (by omega)).1,
        (cellOf_there h.res 0 (by omega)).2, (cellOf_there h.res 1 (by omega)).2, h⟩
  have tT : ∀ W, (W.cell? ⟨w.heap.size, 0, none⟩ = some (.slice aa na ja) ∧ W.cell? ⟨w.heap.size, 1, none⟩ = some (.slice ad nd jd) ∧ W.cell? ⟨w.heap.size + 1, 0, none⟩ = some (cellOf W (w.heap.size + 1) 0) ∧ W.cell? ⟨w.heap.size + 1, 1, none⟩ = some (cellOf W (w.heap.size + 1) 1) ∧ W.frozen? ⟨w.heap.size + 1, 0, none⟩ = false ∧ W.frozen? ⟨w.heap.size + 1, 1, none⟩ = false ∧ TB w.heap.size 2 W2 W) → TB w.heap.size 2 W2 W := fun W h => h.2.2.2.2.2.2
  have HA : Hid (∀ W, (W.cell? ⟨w.heap.size, 0, none⟩ = some (.slice aa na ja) ∧ W.cell? ⟨w.heap.size, 1, none⟩ = some (.slice ad nd jd) ∧ W.cell? ⟨w.heap.size + 1, 0, none⟩ = some (cellOf W (w.heap.size + 1) 0) ∧ W.cell? ⟨w.heap.size + 1, 1, none⟩ = some (cellOf W (w.heap.size + 1) 1) ∧ W.frozen? ⟨w.heap.size + 1, 0, none⟩ = false ∧ W.frozen? ⟨w.heap.size + 1, 1, none⟩ = false ∧ TB w.heap.size 2 W2 W) → Grants W 0 0 J B (.slice aa na ja) XA ∧ B ≤ W.heap.size ∧ J ≤ W.heap.size) := show ∀ W, _ from fun W h => ⟨(ha.below hbw hB hJ).below (tT _ h).bel (by omega) (by omega), by have := (tT _ h).size; omega, by have := (tT _ h).size; omega⟩
  have HD : Hid (∀ W, (W.cell? ⟨w.heap.size, 0, none⟩ = some (.slice aa na ja) ∧ W.cell? ⟨w.heap.size, 1, none⟩ = some (.slice ad nd jd) ∧ W.cell? ⟨w.heap.size + 1, 0, none⟩ = some (cellOf W (w.heap.size + 1) 0) ∧ W.cell? ⟨w.heap.size + 1, 1, none⟩ = some (cellOf W (w.heap.size + 1) 1) ∧ W.frozen? ⟨w.heap.size + 1, 0, none⟩ = false ∧ W.frozen? ⟨w.heap.size + 1, 1, none⟩ = false ∧ TB w.heap.size 2 W2 W) → Grants W 0 0 J B (.slice ad nd jd) XD ∧ B ≤ W.heap.size ∧ J ≤ W.heap.size) := show ∀ W, _ from fun W h => ⟨(hd.below hbw hB hJ).below (tT _ h).bel (by omega) (by omega), by have := (tT _ h).size; omega, by have := (tT _ h).size; omega⟩
  have KB : Hid (∀ W W', Below W.heap.size W W' → (W.cell? ⟨w.heap.size, 0, none⟩ = some (.slice aa na ja) ∧ W.cell? ⟨w.heap.size, 1, none⟩ = some (.slice ad nd jd) ∧ W.cell? ⟨w.heap.size + 1, 0, none⟩ = some (cellOf W (w.heap.size + 1) 0) ∧ W.cell? ⟨w.heap.size + 1, 1, none⟩ = some (cellOf W (w.heap.size + 1) 1) ∧ W.frozen? ⟨w.heap.size + 1, 0, none⟩ = false ∧ W.frozen? ⟨w.heap.size + 1, 1, none⟩ = false ∧ TB w.heap.size 2 W2 W) → (W'.cell? ⟨w.heap.size, 0, none⟩ = some (.slice aa na ja) ∧ W'.cell? ⟨w.heap.size, 1, none⟩ = some (.slice ad nd jd) ∧ W'.cell? ⟨w.heap.size + 1, 0, none⟩ = some (cellOf W' (w.heap.size + 1) 0) ∧ W'.cell? ⟨w.heap.size + 1, 1, none⟩ = some (cellOf W' (w.heap.size + 1) 1) ∧ W'.frozen? ⟨w.heap.size + 1, 0, none⟩ = false ∧ W'.frozen? ⟨w.heap.size + 1, 1, none⟩ = false ∧ TB w.heap.size 2 W2 W')) := show ∀ W W', _ from fun W W' hb h => mk _ (TB.below hb (tT _ h))
  have KS : Hid (∀ W x y, (W.cell? ⟨w.heap.size, 0, none⟩ = some (.slice aa na ja) ∧ W.cell? ⟨w.heap.size, 1, none⟩ = some (.slice ad nd jd) ∧ W.cell? ⟨w.heap.size + 1, 0, none⟩ = some (cellOf W (w.heap.size + 1) 0) ∧ W.cell? ⟨w.heap.size + 1, 1, none⟩ = some (cellOf W (w.heap.size + 1) 1) ∧ W.frozen? ⟨w.heap.size + 1, 0, none⟩ = false ∧ W.frozen? ⟨w.heap.size + 1, 1, none⟩ = false ∧ TB w.heap.size 2 W2 W) → (((W.setCell ⟨w.heap.size + 1, 0, none⟩ x).setCell ⟨w.heap.size + 1, 1, none⟩ y).cell? ⟨w.heap.size, 0, none⟩ = some (.slice aa na ja) ∧ ((W.setCell ⟨w.heap.size + 1, 0, none⟩ x).setCell ⟨w.heap.size + 1, 1, none⟩ y).cell? ⟨w.heap.size, 1, none⟩ = some (.slice ad nd jd) ∧ ((W.setCell ⟨w.heap.size + 1, 0, none⟩ x).setCell ⟨w.heap.size + 1, 1, none⟩ y).cell? ⟨w.heap.size + 1, 0, none⟩ = some (cellOf ((W.setCell ⟨w.heap.size + 1, 0, none⟩ x).setCell ⟨w.heap.size + 1, 1, none⟩ y) (w.heap.size + 1) 0) ∧ ((W.setCell ⟨w.heap.size + 1, 0, none⟩ x).setCell ⟨w.heap.size + 1, 1, none⟩ y).cell? ⟨w.heap.size + 1, 1, none⟩ = some (cellOf ((W.setCell ⟨w.heap.size + 1, 0, none⟩ x).setCell ⟨w.heap.size + 1, 1, none⟩ y) (w.heap.size + 1) 1) ∧ ((W.setCell ⟨w.heap.size + 1, 0, none⟩ x).setCell ⟨w.heap.size + 1, 1, none⟩ y).frozen? ⟨w.heap.size + 1, 0, none⟩ = false ∧ ((W.setCell ⟨w.heap.size + 1, 0, none⟩ x).setCell ⟨w.heap.size + 1, 1, none⟩ y).frozen? ⟨w.heap.size + 1, 1, none⟩ = false ∧ TB w.heap.size 2 W2 ((W.setCell ⟨w.heap.size + 1, 0, none⟩ x).setCell ⟨w.heap.size + 1, 1, none⟩ y))) := show ∀ W x y, _ from fun W x y h => mk _ (((tT _ h).setCell 0 x).setCell 1 y)
  have TT : Hid (∀ W, (W.cell? ⟨w.heap.size, 0, none⟩ = some (.slice aa na ja) ∧ W.cell? ⟨w.heap.size, 1, none⟩ = some (.slice ad nd jd) ∧ W.cell? ⟨w.heap.size + 1, 0, none⟩ = some (cellOf W (w.heap.size + 1) 0) ∧ W.cell? ⟨w.heap.size + 1, 1, none⟩ = some (cellOf W (w.heap.size + 1) 1) ∧ W.frozen? ⟨w.heap.size + 1, 0, none⟩ = false ∧ W.frozen? ⟨w.heap.size + 1, 1, none⟩ = false ∧ TB w.heap.size 2 W2 W) → TB w.heap.size 2 W2 W) := tT
  have s0 := mk _ hT.drew
  clear mk tT c1 c2 ha hd
  go_region_held3 (fun W => (W.cell? ⟨w.heap.size, 0, none⟩ = some (.slice aa na ja) ∧ W.cell? ⟨w.heap.size, 1, none⟩ = some (.slice ad nd jd) ∧ W.cell? ⟨w.heap.size + 1, 0, none⟩ = some (cellOf W (w.heap.size + 1) 0) ∧ W.cell? ⟨w.heap.size + 1, 1, none⟩ = some (cellOf W (w.heap.size + 1) 1) ∧ W.frozen? ⟨w.heap.size + 1, 0, none⟩ = false ∧ W.frozen? ⟨w.heap.size + 1, 1, none⟩ = false ∧ TB w.heap.size 2 W2 W))
    (first
      | exact s0
      | exact KB.out _ _ (by assumption) (by assumption)
      | exact KS.out _ _ _ (by assumption))
    (first
      | (go_at_call_of 34 (Value.slice aa na ja); refine (cloneGS _ J B _ XA (HA.out _ (by assumption)).1 HKA.out (HA.out _ (by assumption)).2.1 (HA.out _ (by assumption)).2.2).mono ?_; rintro e w1 ⟨v1, rfl, hs1, hSA, hb1⟩; (try replace hSD := (Soft.below hSD hb1 (Nat.le_refl _)).mono hb1.size); have hs2 := hs1.mono (TT.out _ (by assumption)).size (Nat.le_refl 0) (Nat.le_refl _) (Nat.le_refl _); clear hs1; obtain ⟨a1, k1, rfl⟩ := hs2.form)
      | (go_at_call_of 34 (Value.slice ad nd jd); refine (cloneGS _ J B _ XD (HD.out _ (by assumption)).1 HKD.out (HD.out _ (by assumption)).2.1 (HD.out _ (by assumption)).2.2).mono ?_; rintro e w1 ⟨v1, rfl, hs1, hSD, hb1⟩; (try replace hSA := (Soft.below hSA hb1 (Nat.le_refl _)).mono hb1.size); have hs2 := hs1.mono (TT.out _ (by assumption)).size (Nat.le_refl 0) (Nat.le_refl _) (Nat.le_refl _); clear hs1; obtain ⟨a1, k1, rfl⟩ := hs2.form))
  all_goals
    have hTm := TB.below (W := W2.drew) (by assumption) hT.drew
    have hT' := TB.below hb1 hTm
    have hszm := hTm.size
    have e0 := (cellOf_there hT'.res 0 (by omega)).1
    have e1 := (cellOf_there hT'.res 1 (by omega)).1
    go_wp2
    refine bodyPost_ret (v := .agg #[.slice _ XA.n _, .slice _ XD.n _]) (by simp [results, Try.results31, go_sem, e0, e1] <;> exact ⟨⟨rfl, rfl⟩, rfl, rfl⟩) rfl ⟨_, _, rfl, end31a ?_ hJ, end31a ?_ hJ, ⟨softSet2 hSA, softSet2 hSD⟩, end31b hbw hT'⟩
  all_goals first
    | exact hs2
    | exact (Grants.below (by assumption) hb1 (Nat.le_refl _) (by omega)).mono (Nat.le_refl _) (Nat.le_refl _) (Nat.le_refl _) hb1.size

set_option maxHeartbeats 4000000 in
set_option maxRecDepth 100000 in
theorem roleCloneS (w : World) (J B : Nat) (vi va vd : Value) (X : Sp) (hx : Fields w 0 0 J B vi va vd X) (hok : X.ok) (hB : B ≤ w.heap.size) (hJ : J ≤ w.heap.size) :
    Calls Try.prog 25 #[.agg #[vi, va, vd]] w fun e w' => ∃ vi' va' vd', e = .returned (.agg #[vi', va', vd']) ∧ Fields w' w.heap.size 0 J w'.heap.size vi' va' vd' X ∧ (Soft w' w'.heap.size vi' ∧ Soft w' w'.heap.size va' ∧ Soft w' w'.heap.size vd') ∧ Below w.heap.size w w' := by
  obtain ⟨s, XI, XA, XD⟩ := X
  obtain ⟨hi, ha, hd⟩ := hx
  obtain ⟨ki, ka, kd⟩ := hok
  simp only at hi ha hd ki ka kd ⊢
  obtain ⟨ai, ji, rfl⟩ := hi.form
  obtain ⟨aa, ja, rfl⟩ := ha.form
  obtain ⟨ad, jd, rfl⟩ := hd.form
  have HKI : Hid (XI.n ≤ 1048576) := ki
  have HKA : Hid (XA.n ≤ 1048576) := ka.1
  have HKD : Hid (XD.n ≤ 1048576) := kd.1
  clear ki ka kd
  generalize XI.n = ni at hi ⊢
  generalize XA.n = na at ha ⊢
  generalize XD.n = nd at hd ⊢
  go_enter Try.func25, Try.ntmps25
  go_upto_region 1 with fail
  have hT := TB.first w #[.slice ai ni ji, .slice aa na ja, .slice ad nd jd] #[.slice none 0 0, .slice none 0 0, .slice none 0 0] 33 33
  obtain ⟨W2, hW2⟩ : ∃ W2, W2 = (w.alloc (Obj.cells #[.slice ai ni ji, .slice aa na ja, .slice ad nd jd] 33)).alloc (Obj.cells #[Value.slice none 0 0, Value.slice none 0 0, Value.slice none 0 0] 33) := ⟨_, rfl⟩
  rw [← hW2]
  rw [← hW2] at hT
  have c0 : W2.cell? ⟨w.heap.size, 0, none⟩ = some (.slice ai ni ji) := by rw [hW2]; simp
  have c1 : W2.cell? ⟨w.heap.size, 1, none⟩ = some (.slice aa na ja) := by rw [hW2]; simp
  have c2 : W2.cell? ⟨w.heap.size, 2, none⟩ = some (.slice ad nd jd) := by rw [hW2]; simp
  have hbw : Below w.heap.size w W2 := by rw [hW2]; exact ((Below.refl _ _).alloc (Nat.le_refl _) _).alloc (by simp) _
  clear hW2
  have hT : TB w.heap.size 3 W2 W2 := hT
  have mk : ∀ W, TB w.heap.size 3 W2 W → (W.cell? ⟨w.heap.size, 0, none⟩ = some (.slice ai ni ji) ∧ W.cell? ⟨w.heap.size, 1, none⟩ = some (.slice aa na ja) ∧ W.cell? ⟨w.heap.size, 2, none⟩ = some (.slice ad nd jd) ∧ W.cell? ⟨w.heap.size + 1, 0, none⟩ = some (cellOf W (w.heap.size + 1) 0) ∧ W.cell? ⟨w.heap.size + 1, 1, none⟩ = some (cellOf W (w.heap.size + 1) 1) ∧ W.cell? ⟨w.heap.size + 1, 2, none⟩ = some (cellOf W (w.heap.size + 1) 2) ∧ W.frozen? ⟨w.heap.size + 1, 0, none⟩ = false ∧ W.frozen? ⟨w.heap.size + 1, 1, none⟩ = false ∧ W.frozen? ⟨w.heap.size + 1, 2, none⟩ = false ∧ TB w.heap.size 3 W2 W) := fun W h =>
      ⟨(h.bel.cell (by show w.heap.size < _; omega)).trans c0, (h.bel.cell (by show w.heap.size < _; omega)).trans c1, (h.bel.cell (by show w.heap.size < _; omega)).trans c2, (cellOf_there h.res 0 (by omega)).1, (cellOf_there h.res 1 (by omega)).1, (cellOf_there h.res 2 (by omega)).1,
        (cellOf_there h.res 0 (by omega)).2, (cellOf_there h.res 1 (by omega)).2, (cellOf_there h.res 2 (by omega)).2, h⟩
  have tT : ∀ W, (W.cell? ⟨w.heap.size, 0, none⟩ = some (.slice ai ni ji) ∧ W.cell? ⟨w.heap.size, 1, none⟩ = some (.slice aa na ja) ∧ W.cell? ⟨w.heap.size, 2, none⟩ = some (.slice ad nd jd) ∧ W.cell? ⟨w.heap.size + 1, 0, none⟩ = some (cellOf W (w.heap.size + 1) 0) ∧ W.cell? ⟨w.heap.size + 1, 1, none⟩ = some (cellOf W (w.heap.size + 1) 1) ∧ W.cell? ⟨w.heap.size + 1, 2, none⟩ = some (cellOf W (w.heap.size + 1) 2) ∧ W.frozen? ⟨w.heap.size + 1, 0, none⟩ = false ∧ W.frozen? ⟨w.heap.size + 1, 1, none⟩ = false ∧ W.frozen? ⟨w.heap.size + 1, 2, none⟩ = false ∧ TB w.heap.size 3 W2 W) → TB w.heap.size 3 W2 W := fun W h => h.2.2.2.2.2.2.2.2.2
  have HI : Hid (∀ W, (W.cell? ⟨w.heap.size, 0, none⟩ = some (.slice ai ni ji) ∧ W.cell? ⟨w.heap.size, 1, none⟩ = some (.slice aa na ja) ∧ W.cell? ⟨w.heap.size, 2, none⟩ = some (.slice ad nd jd) ∧ W.cell? ⟨w.heap.size + 1, 0, none⟩ = some (cellOf W (w.heap.size + 1) 0) ∧ W.cell? ⟨w.heap.size + 1, 1, none⟩ = some (cellOf W (w.heap.size + 1) 1) ∧ W.cell? ⟨w.heap.size + 1, 2, none⟩ = some (cellOf W (w.heap.size + 1) 2) ∧ W.frozen? ⟨w.heap.size + 1, 0, none⟩ = false ∧ W.frozen? ⟨w.heap.size + 1, 1, none⟩ = false ∧ W.frozen? ⟨w.heap.size + 1, 2, none⟩ = false ∧ TB w.heap.size 3 W2 W) → Strs W 0 B (.slice ai ni ji) XI ∧ B ≤ W.heap.size) := show ∀ W, _ from fun W h => ⟨(hi.below hbw hB).below (tT _ h).bel (by omega), by have := (tT _ h).size; omega⟩
  have HA : Hid (∀ W, (W.cell? ⟨w.heap.size, 0, none⟩ = some (.slice ai ni ji) ∧ W.cell? ⟨w.heap.size, 1, none⟩ = some (.slice aa na ja) ∧ W.cell? ⟨w.heap.size, 2, none⟩ = some (.slice ad nd jd) ∧ W.cell? ⟨w.heap.size + 1, 0, none⟩ = some (cellOf W (w.heap.size + 1) 0) ∧ W.cell? ⟨w.heap.size + 1, 1, none⟩ = some (cellOf W (w.heap.size + 1) 1) ∧ W.cell? ⟨w.heap.size + 1, 2, none⟩ = some (cellOf W (w.heap.size + 1) 2) ∧ W.frozen? ⟨w.heap.size + 1, 0, none⟩ = false ∧ W.frozen? ⟨w.heap.size + 1, 1, none⟩ = false ∧ W.frozen? ⟨w.heap.size + 1, 2, none⟩ = false ∧ TB w.heap.size 3 W2 W) → (Grants W 0 0 J B (.slice aa na ja) XA ∧ Grants W 0 0 J B (.slice ad nd jd) XD) ∧ B ≤ W.heap.size ∧ J ≤ W.heap.size) := show ∀ W, _ from fun W h => ⟨⟨(ha.below hbw hB hJ).below (tT _ h).bel (by omega) (by omega), (hd.below hbw hB hJ).below (tT _ h).bel (by omega) (by omega)⟩, by have := (tT _ h).size; omega, by have := (tT _ h).size; omega⟩
  have KB : Hid (∀ W W', Below W.heap.size W W' → (W.cell? ⟨w.heap.size, 0, none⟩ = some (.slice ai ni ji) ∧ W.cell? ⟨w.heap.size, 1, none⟩ = some (.slice aa na ja) ∧ W.cell? ⟨w.heap.size, 2, none⟩ = some (.slice ad nd jd) ∧ W.cell? ⟨w.heap.size + 1, 0, none⟩ = some (cellOf W (w.heap.size + 1) 0) ∧ W.cell? ⟨w.heap.size + 1, 1, none⟩ = some (cellOf W (w.heap.size + 1) 1) ∧ W.cell? ⟨w.heap.size + 1, 2, none⟩ = some (cellOf W (w.heap.size + 1) 2) ∧ W.frozen? ⟨w.heap.size + 1, 0, none⟩ = false ∧ W.frozen? ⟨w.heap.size + 1, 1, none⟩ = false ∧ W.frozen? ⟨w.heap.size + 1, 2, none⟩ = false ∧ TB w.heap.size 3 W2 W) → (W'.cell? ⟨w.heap.size, 0, none⟩ = some (.slice ai ni ji) ∧ W'.cell? ⟨w.heap.size, 1, none⟩ = some (.slice aa na ja) ∧ W'.cell? ⟨w.heap.size, 2, none⟩ = some (.slice ad nd jd) ∧ W'.cell? ⟨w.heap.size + 1, 0, none⟩ = some (cellOf W' (w.heap.size + 1) 0) ∧ W'.cell? ⟨w.heap.size + 1, 1, none⟩ = some (cellOf W' (w.heap.size + 1) 1) ∧ W'.cell? ⟨w.heap.size + 1, 2, none⟩ = some (cellOf W' (w.heap.size + 1) 2) ∧ W'.frozen? ⟨w.heap.size + 1, 0, none⟩ = false ∧ W'.frozen? ⟨w.heap.size + 1, 1, none⟩ = false ∧ W'.frozen? ⟨w.heap.size + 1, 2, none⟩ = false ∧ TB w.heap.size 3 W2 W')) := show ∀ W W', _ from fun W W' hb h => mk _ (TB.below hb (tT _ h))
  have KS : Hid (∀ W x y z, (W.cell? ⟨w.heap.size, 0, none⟩ = some (.slice ai ni ji) ∧ W.cell? ⟨w.heap.size, 1, none⟩ = some (.slice aa na ja) ∧ W.cell? ⟨w.heap.size, 2, none⟩ = some (.slice ad nd jd) ∧ W.cell? ⟨w.heap.size + 1, 0, none⟩ = some (cellOf W (w.heap.size + 1) 0) ∧ W.cell? ⟨w.heap.size + 1, 1, none⟩ = some (cellOf W (w.heap.size + 1) 1) ∧ W.cell? ⟨w.heap.size + 1, 2, none⟩ = some (cellOf W (w.heap.size + 1) 2) ∧ W.frozen? ⟨w.heap.size + 1, 0, none⟩ = false ∧ W.frozen? ⟨w.heap.size + 1, 1, none⟩ = false ∧ W.frozen? ⟨w.heap.size + 1, 2, none⟩ = false ∧ TB w.heap.size 3 W2 W) → ((((W.setCell ⟨w.heap.size + 1, 0, none⟩ x).setCell ⟨w.heap.size + 1, 1, none⟩ y).setCell ⟨w.heap.size + 1, 2, none⟩ z).cell? ⟨w.heap.size, 0, none⟩ = some (.slice ai ni ji) ∧ (((W.setCell ⟨w.heap.size + 1, 0, none⟩ x).setCell ⟨w.heap.size + 1, 1, none⟩ y).setCell ⟨w.heap.size + 1, 2, none⟩ z).cell? ⟨w.heap.size, 1, none⟩ = some (.slice aa na ja) ∧ (((W.setCell ⟨w.heap.size + 1, 0, none⟩ x).setCell ⟨w.heap.size + 1, 1, none⟩ y).setCell ⟨w.heap.size + 1, 2, none⟩ z).cell? ⟨w.heap.size, 2, none⟩ = some (.slice ad nd jd) ∧ (((W.setCell ⟨w.heap.size + 1, 0, none⟩ x).setCell ⟨w.heap.size + 1, 1, none⟩ y).setCell ⟨w.heap.size + 1, 2, none⟩ z).cell? ⟨w.heap.size + 1, 0, none⟩ = some (cellOf (((W.setCell ⟨w.heap.size + 1, 0, none⟩ x).setCell ⟨w.heap.size + 1, 1, none⟩ y).setCell ⟨w.heap.size + 1, 2, none⟩ z) (w.heap.size + 1) 0) ∧ (((W.setCell ⟨w.heap.size + 1, 0, none⟩ x).setCell ⟨w.heap.size + 1, 1, none⟩ y).setCell ⟨w.heap.size + 1, 2, none⟩ z).cell? ⟨w.heap.size + 1, 1, none⟩ = some (cellOf (((W.setCell ⟨w.heap.size + 1, 0, none⟩ x).setCell ⟨w.heap.size + 1, 1, none⟩ y).setCell ⟨w.heap.size + 1, 2, none⟩ z) (w.heap.size + 1) 1) ∧ (((W.setCell ⟨w.heap.size + 1, 0, none⟩ x).setCell ⟨w.heap.size + 1, 1, none⟩ y).setCell ⟨w.heap.size + 1, 2, none⟩ z).cell? ⟨w.heap.size + 1, 2, none⟩ = some (cellOf (((W.setCell ⟨w.heap.size + 1, 0, none⟩ x).setCell ⟨w.heap.size + 1, 1, none⟩ y).setCell ⟨w.heap.size + 1, 2, none⟩ z) (w.heap.size + 1) 2) ∧ (((W.setCell ⟨w.heap.size + 1, 0, none⟩ x).setCell ⟨w.heap.size + 1, 1, none⟩ y).setCell ⟨w.heap.size + 1, 2, none⟩ z).frozen? ⟨w.heap.size + 1, 0, none⟩ = false ∧ (((W.setCell ⟨w.heap.size + 1, 0, none⟩ x).setCell ⟨w.heap.size + 1, 1, none⟩ y).setCell ⟨w.heap.size + 1, 2, none⟩ z).frozen? ⟨w.heap.size + 1, 1, none⟩ = false ∧ (((W.setCell ⟨w.heap.size + 1, 0, none⟩ x).setCell ⟨w.heap.size + 1, 1, none⟩ y).setCell ⟨w.heap.size + 1, 2, none⟩ z).frozen? ⟨w.heap.size + 1, 2, none⟩ = false ∧ TB w.heap.size 3 W2 (((W.setCell ⟨w.heap.size + 1, 0, none⟩ x).setCell ⟨w.heap.size + 1, 1, none⟩ y).setCell ⟨w.heap.size + 1, 2, none⟩ z))) := show ∀ W x y z, _ from fun W x y z h => mk _ ((((tT _ h).setCell 0 x).setCell 1 y).setCell 2 z)
  have TT : Hid (∀ W, (W.cell? ⟨w.heap.size, 0, none⟩ = some (.slice ai ni ji) ∧ W.cell? ⟨w.heap.size, 1, none⟩ = some (.slice aa na ja) ∧ W.cell? ⟨w.heap.size, 2, none⟩ = some (.slice ad nd jd) ∧ W.cell? ⟨w.heap.size + 1, 0, none⟩ = some (cellOf W (w.heap.size + 1) 0) ∧ W.cell? ⟨w.heap.size + 1, 1, none⟩ = some (cellOf W (w.heap.size + 1) 1) ∧ W.cell? ⟨w.heap.size + 1, 2, none⟩ = some (cellOf W (w.heap.size + 1) 2) ∧ W.frozen? ⟨w.heap.size + 1, 0, none⟩ = false ∧ W.frozen? ⟨w.heap.size + 1, 1, none⟩ = false ∧ W.frozen? ⟨w.heap.size + 1, 2, none⟩ = false ∧ TB w.heap.size 3 W2 W) → TB w.heap.size 3 W2 W) := tT
  have s0 := mk _ hT.drew
  clear mk tT c0 c1 c2 hi ha hd
  go_region_held3 (fun W => (W.cell? ⟨w.heap.size, 0, none⟩ = some (.slice ai ni ji) ∧ W.cell? ⟨w.heap.size, 1, none⟩ = some (.slice aa na ja) ∧ W.cell? ⟨w.heap.size, 2, none⟩ = some (.slice ad nd jd) ∧ W.cell? ⟨w.heap.size + 1, 0, none⟩ = some (cellOf W (w.heap.size + 1) 0) ∧ W.cell? ⟨w.heap.size + 1, 1, none⟩ = some (cellOf W (w.heap.size + 1) 1) ∧ W.cell? ⟨w.heap.size + 1, 2, none⟩ = some (cellOf W (w.heap.size + 1) 2) ∧ W.frozen? ⟨w.heap.size + 1, 0, none⟩ = false ∧ W.frozen? ⟨w.heap.size + 1, 1, none⟩ = false ∧ W.frozen? ⟨w.heap.size + 1, 2, none⟩ = false ∧ TB w.heap.size 3 W2 W))
    (first
      | exact s0
      | exact KB.out _ _ (by assumption) (by assumption)
      | exact KS.out _ _ _ _ (by assumption))
    (first
      | (go_at_call 30; refine (cloneNS _ B _ XI (HI.out _ (by assumption)).1 HKI.out (HI.out _ (by assumption)).2).mono ?_; rintro e w1 ⟨v1, rfl, hs1, hSI, hb1⟩; (try replace hSA := (Soft.below hSA hb1 (Nat.le_refl _)).mono hb1.size); (try replace hSD := (Soft.below hSD hb1 (Nat.le_refl _)).mono hb1.size); have hs2 := hs1.mono (TT.out _ (by assumption)).size (Nat.le_refl _); clear hs1; obtain ⟨a1, k1, rfl⟩ := hs2.form)
      | (go_at_call 31; refine (grantsCloneS _ J B _ _ XA XD (HA.out _ (by assumption)).1.1 (HA.out _ (by assumption)).1.2 HKA.out HKD.out (HA.out _ (by assumption)).2.1 (HA.out _ (by assumption)).2.2).mono ?_; rintro e w1 ⟨v1, v2, rfl, hs1, ht1, ⟨hSA, hSD⟩, hb1⟩; (try replace hSI := (Soft.below hSI hb1 (Nat.le_refl _)).mono hb1.size); have hs2 := hs1.mono (TT.out _ (by assumption)).size (Nat.le_refl 0) (Nat.le_refl _) (Nat.le_refl _); have ht2 := ht1.mono (TT.out _ (by assumption)).size (Nat.le_refl 0) (Nat.le_refl _) (Nat.le_refl _); clear hs1 ht1; obtain ⟨a1, k1, rfl⟩ := hs2.form; obtain ⟨a2, k2, rfl⟩ := ht2.form))
  all_goals
    have hTm := TB.below (W := W2.drew) (by assumption) hT.drew
    have hT' := TB.below hb1 hTm
    have hszm := hTm.size
    have e0 := (cellOf_there hT'.res 0 (by omega)).1
    have e1 := (cellOf_there hT'.res 1 (by omega)).1
    have e2 := (cellOf_there hT'.res 2 (by omega)).1
    go_wp2
    refine bodyPost_ret (v := .agg #[.slice _ XI.n _, .slice _ XA.n _, .slice _ XD.n _]) (by simp [results, Try.results25, go_sem, e0, e1, e2] <;> exact ⟨⟨rfl, rfl⟩, ⟨rfl, rfl⟩, rfl, rfl⟩) rfl ⟨_, _, _, rfl, (end25 hbw hT' ?_ ?_ ?_ hJ).1, ⟨softSet3 hSI, softSet3 hSA, softSet3 hSD⟩, end25b hbw hT'⟩
  all_goals first
    | exact hs2
    | exact ht2
    | exact (Grants.below (by assumption) hb1 (Nat.le_refl _) (by omega)).mono (Nat.le_refl _) (Nat.le_refl _) (Nat.le_refl _) hb1.size
    | exact (Strs.below (by assumption) hb1 (Nat.le_refl _)).mono (Nat.le_refl _) hb1.size

end Go.Proofs.Qxb6630161a
