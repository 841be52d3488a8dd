/-
  Seat b6630020a: the contracts in one form: 'Own' (a slice of the call's own), 'Holds' (bytes behind a slice's address).
-/
import Derived.Test.Qxb6630020aWalksB
import Derived.Laws.CopyOwn
namespace Go.Proofs.Qxb6630020a
open Go.RowKit

/-- The slice value v owns the bytes L, in blocks from B on. -/
def Own (w : World) (B : Nat) (v : Value) (L : List Int) : Prop := w.ownsRow B 5 1 v L.length (U8 L)
/-- Behind the address lie the bytes L, below block B. -/
def Holds (w : World) (B : Nat) (ao : Option Addr) (L : List Int) : Prop :=
  L = [] ∨ ∃ b o, ao = some ⟨b, o, none⟩ ∧ b < B ∧ ∀ i, i < L.length → w.cell? ⟨b, o + i, none⟩ = some (.int .u8 (L.getD i 0))

theorem Own.below {w w' : World} {B B' : Nat} {v : Value} {L : List Int} (h : Own w B v L) (hb : Below B' w w') (hlt : w.heap.size ≤ B') : Own w' B v L := by
  refine World.ownsRow.kept (row := Option.none) h ⟨hb.os, hb.tape, hb.output, hb.size, fun k hk _ => hb.block k (by omega)⟩ ?_
  cases v.ownBlock <;> simp
/-- What lies below B' is kept by a call that writes from B' on. -/
theorem Own.below' {w0 w w' : World} {B B' : Nat} {v : Value} {L : List Int} (h0 : Own w0 B v L) (hs : w0.heap.size ≤ B') (h : Own w B v L) (hb : Below B' w w') : Own w' B v L := by
  refine ⟨h.1, ?_⟩
  rcases h.2 with hn | ⟨g, cap, cur, rfl, hB, hgg, rest⟩
  · exact .inl hn
  · refine .inr ⟨g, cap, cur, rfl, hB, ?_, rest⟩
    rw [hb.block g (by have := (World.ownsRow.lt h0 g rfl).2; omega)]
    exact hgg
theorem Own.shape {w : World} {B : Nat} {v : Value} {L : List Int} (h : Own w B v L) : ∃ ao cap, v = .slice ao L.length cap := by
  rcases h.2 with ⟨rfl, h0⟩ | ⟨g, cap, cur, rfl, _⟩
  · exact ⟨none, 0, by rw [h0]⟩
  · exact ⟨_, _, rfl⟩
theorem Own.holds {w : World} {B : Nat} {ao : Option Addr} {n cap : Nat} {L : List Int} (h : Own w B (.slice ao n cap) L) {B' : Nat} (hB : w.heap.size ≤ B') : Holds w B' ao L := by
  rcases h.2 with ⟨h', h0⟩ | ⟨g, cap', cur, h', _⟩
  · exact .inl (List.eq_nil_of_length_eq_zero h0)
  · simp only [Value.slice.injEq] at h'
    obtain ⟨rfl, rfl, rfl⟩ := h'
    refine .inr ⟨g, 0, rfl, ?_, fun i hi => ?_⟩
    · have := (World.ownsRow.lt h g rfl).2; omega
    · rw [Nat.zero_add, World.ownsRow.cellAt h i (by omega)]
      simp [U8, hi]
theorem Holds.below {w w' : World} {B B' : Nat} {ao : Option Addr} {L : List Int} (h : Holds w B ao L) (hb : Below B' w w') (hB : B ≤ B') : Holds w' B ao L := by
  rcases h with h | ⟨b, o, rfl, hlt, hc⟩
  · exact .inl h
  · exact .inr ⟨b, o, rfl, hlt, fun i hi => (hb.cell (by show b < B'; omega)).trans (hc i hi)⟩
theorem Holds.more {w : World} {B B' : Nat} {ao : Option Addr} {L : List Int} (h : Holds w B ao L) (hB : B ≤ B') : Holds w B' ao L := by
  rcases h with h | ⟨b, o, rfl, hlt, hc⟩
  · exact .inl h
  · exact .inr ⟨b, o, rfl, by omega, hc⟩
theorem Holds.drewN {w : World} {B n : Nat} {ao : Option Addr} {L : List Int} (h : Holds w B ao L) : Holds (w.drewN n) B ao L := h
theorem below_drewN' {B n : Nat} {a w : World} (h : Below B a w) : Below B a (w.drewN n) := ⟨h.os, h.tape, h.output, h.size, h.block⟩

/-- zzSameAt at equal bytes. -/
theorem same_all (a1 a2 : Option Addr) (c1 c2 B : Nat) (G P : List Int) (at_ : Nat) (w : World) (hG : G.length ≤ 100000000) (hat : at_ + P.length ≤ G.length)
    (h1 : Holds w B a1 G) (h2 : Holds w B a2 P) (heq : ∀ i, i < P.length → G.getD (at_ + i) 0 = P.getD i 0) :
    Calls Try.prog 8 #[.slice a1 G.length c1, .int .i64 at_, .slice a2 P.length c2] w fun e w' => e = .returned (.bool true) ∧ ∃ n, w' = w.drewN n := by
  by_cases hP : P.length = 0
  · rw [hP]
    have hat' : at_ ≤ G.length := by omega
    clear h1 h2 heq hP hat
    go_enter Try.func8, Try.ntmps8
    go_wp2
    refine wp_loop_rounds 1 ?_
    rw [rounds_succ]
    go_wp2
    go_ret
    exact ⟨rfl, 0, rfl⟩
  · rcases h1 with h1 | ⟨b, o, rfl, _, hc⟩
    · have := congrArg List.length h1; simp only [List.length_nil] at this; omega
    rcases h2 with h2 | ⟨b2, o2, rfl, _, hc2⟩
    · rw [h2] at hP; simp at hP
    exact same_any b o c1 b2 o2 c2 G P at_ w hG hat hc hc2 heq

theorem copy_empty (x : Addr) (cap : Nat) (w : World) :
    Calls Try.prog 6 #[.slice (some x) 0 cap] w fun e w' => e = .returned (.slice (some ⟨w.heap.size, 0, none⟩) 0 0) ∧
      w'.ownsRow w.heap.size 5 1 (.slice (some ⟨w.heap.size, 0, none⟩) 0 0) 0 (U8 []) ∧ Below w.heap.size w w' := by
  obtain ⟨i0, hi, hz0, hz1, hz2⟩ := info_parts Try.info5
  have hn := @Lib.run_eql_slice_nil Try.prog
  go_enter Try.func6, Try.ntmps6
  go_wp2_with (at_make; refine wpList_make_full _ rfl _ _ 22 rfl w.heap.size 5 i0 (.int .u8 0) 1 Try.underlying22 hi hz0 hz1 .i64 .i64 _ _ 0 rfl rfl rfl rfl ?_ ?_ ?_ ?_)
  · exact Nat.zero_le _
  · exact Nat.zero_le _
  · exact Nat.le_refl _
  intro w1 hown hgr
  have hbel : Below w.heap.size w w1 := (Below.refl _ _).grown hgr (Nat.le_refl _) (fun k hk => by cases hk)
  have hown1 : w1.ownsRow w.heap.size 5 1 (.slice (some ⟨w.heap.size, 0, none⟩) 0 0) 0 (U8 []) := by
    have h := made_u8 0
    simp only [List.replicate_zero] at h
    rw [← h]; exact hown
  have A : Hid (_ ∧ _) := And.intro hown1 hbel
  clear hown hgr hbel hown1
  go_wp2
  refine wp_loop_rounds 1 ?_
  rw [rounds_succ]
  go_wp2
  go_ret
  exact ⟨rfl, A.out.1, A.out.2⟩

/-- zzCopyBytes: nil stays nil; else a new row. -/
theorem copy_all (ao : Option Addr) (cap : Nat) (L : List Int) (w : World) (hl : L.length ≤ 2000000) (h : Holds w w.heap.size ao L) (hn : ao = none → L = [] ∧ cap = 0) :
    Calls Try.prog 6 #[.slice ao L.length cap] w fun e w' => ∃ a' c', e = .returned (.slice a' L.length c') ∧ Own w' w.heap.size (.slice a' L.length c') L ∧ Below w.heap.size w w' := by
  cases ao with
  | none =>
    obtain ⟨rfl, rfl⟩ := hn rfl
    refine (copy_nil w).mono fun e w' ⟨he, hw⟩ => ?_
    subst hw
    exact ⟨_, _, he, World.ownsRow_nil _ _ _ _, Below.refl _ _⟩
  | some x =>
    rcases h with rfl | ⟨b, o, hx, hb, hc⟩
    · refine (copy_empty x cap w).mono fun e w' ⟨he, hw, hb⟩ => ?_
      exact ⟨_, _, he, hw, hb⟩
    · obtain rfl : x = _ := Option.some.inj hx
      refine (copy_some b o L.length cap L w hl rfl hb hc).mono fun e w' ⟨he, hw, hb⟩ => ?_
      exact ⟨_, _, he, hw, hb⟩

/-- AppendNameText. -/
theorem name_all (B : Nat) (v : Value) (X : List Int) (ao : Option Addr) (cap : Nat) (zs : List Int) (w : World) (hown : Own w B v X) (hB : B ≤ w.heap.size)
    (hcap : zs.length ≤ cap) (hc : Holds w B ao zs) (hwf : ∀ i, i < zs.length → 0 ≤ zs.getD i 0 ∧ zs.getD i 0 ≤ 255) (hX : X.length ≤ 2000000) (hl : zs.length ≤ 2000000) :
    Calls Try.prog 7 #[v, .slice ao zs.length cap] w fun e w' => ∃ a' c', e = .returned (.slice a' (X ++ Plain.text zs).length c') ∧
      Own w' B (.slice a' (X ++ Plain.text zs).length c') (X ++ Plain.text zs) ∧ Below B w w' := by
  rcases hc with rfl | ⟨b, o, rfl, hb, hc⟩
  · refine (name_dot_empty B v X ao cap w hown hB hX).mono fun e w' ⟨v', he, hw, hb⟩ => ?_
    obtain ⟨a', c', rfl⟩ := Own.shape hw
    exact ⟨a', c', he, hw, hb⟩
  · cases zs with
    | nil =>
      refine (name_dot_empty B v X _ cap w hown hB hX).mono fun e w' ⟨v', he, hw, hb⟩ => ?_
      obtain ⟨a', c', rfl⟩ := Own.shape hw
      exact ⟨a', c', he, hw, hb⟩
    | cons n r =>
      by_cases hn : n = 0
      · subst hn
        rw [Plain.text_zero]
        refine (name_dot_zero B v X b o _ cap w hown hB hX (by simp) (by simpa using hc 0 (by simp))).mono fun e w' ⟨v', he, hw, hb⟩ => ?_
        obtain ⟨a', c', rfl⟩ := Own.shape hw
        exact ⟨a', c', he, hw, hb⟩
      · refine (name_loop B v X b o _ cap (n :: r) w hown hB hb rfl hcap hc hwf hX hl (by simp) (by simpa using hn)).mono fun e w' ⟨v', he, hw, hb⟩ => ?_
        obtain ⟨a', c', rfl⟩ := Own.shape hw
        exact ⟨a', c', he, hw, hb⟩

/-- The same, what is appended under a name of its own. -/
theorem name_g (G : List Int) (B : Nat) (v : Value) (X : List Int) (ao : Option Addr) (len cap : Nat) (zs : List Int) (w : World) (hG : X ++ Plain.text zs = G) (hlen : zs.length = len) (hown : Own w B v X) (hB : B ≤ w.heap.size)
    (hcap : len ≤ cap) (hc : Holds w B ao zs) (hwf : ∀ i, i < zs.length → 0 ≤ zs.getD i 0 ∧ zs.getD i 0 ≤ 255) (hX : X.length ≤ 2000000) (hl : len ≤ 2000000) :
    Calls Try.prog 7 #[v, .slice ao len cap] w fun e w' => ∃ a' c', e = .returned (.slice a' G.length c') ∧ Own w' B (.slice a' G.length c') G ∧ Below B w w' := by
  subst hG
  subst hlen
  exact name_all B v X ao cap zs w hown hB hcap hc hwf hX hl

theorem Holds.at0 {w : World} {B g : Nat} {L : List Int} (h : Holds w B (some ⟨g, 0, none⟩) L) (i : Nat) (hi : i < L.length) : w.cell? ⟨g, i, none⟩ = some (.int .u8 (L.getD i 0)) := by
  rcases h with rfl | ⟨b, o, hx, _, hc⟩
  · simp at hi
  · simp only [Option.some.injEq, Addr.mk.injEq, and_true] at hx
    obtain ⟨rfl, rfl⟩ := hx
    simpa using hc i hi
theorem Holds.take {w : World} {B : Nat} {ao : Option Addr} {L : List Int} (h : Holds w B ao L) (k : Nat) : Holds w B ao (L.take k) := by
  rcases h with rfl | ⟨b, o, rfl, hb, hc⟩
  · exact .inl (by simp)
  · refine .inr ⟨b, o, rfl, hb, fun i hi => ?_⟩
    rw [hc i (by simp at hi; omega)]
    simp only [List.length_take] at hi
    simp [show i < k by omega]
theorem Holds.drop0 {w : World} {B g : Nat} {L : List Int} (h : Holds w B (some ⟨g, 0, none⟩) L) (hg : g < B) (k : Nat) : Holds w B (some ⟨g, k, none⟩) (L.drop k) := by
  refine .inr ⟨g, k, rfl, hg, fun i hi => ?_⟩
  simp only [List.length_drop] at hi
  rw [h.at0 (k + i) (by omega)]
  simp

/-- 'zzc := make([]byte, len(name))' as one step of the walk. -/
theorem wpList_make8 {w : World} {ops : Array Oper} {rest : List Oper} {o : Oper} {a : Act} {Q : Exit → Act → World → Prop} (hg : o.guard = none) (l c : Operand) (hop : o.op = Op.makeSlice 22 l c)
    (n : Nat) (hl : a.eval l = .int .i64 (n : Int)) (hc : a.eval c = .int .i64 (n : Int)) (hn : n ≤ 2000000)
    (hK : ∀ w', Hid (∃ Z : List Value, Z.length = n ∧ w'.heap[w.heap.size]? = some (.cells Z.toArray 5 (0, 0))) → Below w.heap.size w w' → wpList Try.prog ops Q rest (a.put o.dst (.slice (some ⟨w.heap.size, 0, none⟩) n n)) w') :
    wpList Try.prog ops Q (o :: rest) a w := by
  obtain ⟨i0, hi, hz0, hz1, hz2⟩ := info_parts Try.info5
  refine wpList_make_full w hg l c 22 hop w.heap.size 5 i0 (.int .u8 0) 1 Try.underlying22 hi hz0 hz1 .i64 .i64 _ _ n hl hc rfl rfl (by rw [hz2]; omega) (by unfold maxLen; omega) (Nat.le_refl _) fun w' hown hgr => ?_
  refine hK w' ?_ ((Below.refl _ _).grown hgr (Nat.le_refl _) (fun k hk => by cases hk))
  rcases hown.2 with ⟨h, _⟩ | ⟨g, cap, cur, h, _, hgg, _, _, hsz, _⟩
  · cases h
  · simp only [Value.slice.injEq, Option.some.injEq, Addr.mk.injEq, and_true, true_and] at h
    obtain ⟨rfl, rfl⟩ := h
    exact ⟨cur.toList, by simpa using hsz, by simpa using hgg⟩

/-- 'copy(zzc, name)' as one step of the walk. -/
theorem wpList_copy8 {w0 w : World} {ops : Array Oper} {rest : List Oper} {o : Oper} {a : Act} {Q : Exit → Act → World → Prop} (hgd : o.guard = none) (d s : Operand)
    (ho : o.op = .call { callee := .builtin .copy, args := #[d, s], argTypes := #[22, 22] }) (g c1 : Nat) (ao : Option Addr) (L : List Int)
    (hd : a.eval d = .slice (some ⟨g, 0, none⟩) L.length L.length) (hs : a.eval s = .slice ao L.length c1) (hZ : Hid (∃ Z : List Value, Z.length = L.length ∧ w.heap[g]? = some (.cells Z.toArray 5 (0, 0))))
    (hsrc : Holds w0 g ao L) (hb : Below g w0 w)
    (h : ∀ w', Holds w' (g + 1) (some ⟨g, 0, none⟩) L → g < w'.heap.size → Below g w0 w' → wpList Try.prog ops Q rest (a.put o.dst (goInt (U8 L).length)) w') : wpList Try.prog ops Q (o :: rest) a w := by
  obtain ⟨Z, hZl, hg⟩ := hZ.out
  refine wpList_copy_splice hgd d s 22 22 ho 5 Try.underlying22 (by kernel_rfl) _ _ _ _ _ _ hd hs g 0 Z 5 hg (U8 L) (by simp [U8]) (fun hpos => ⟨rfl, ?_⟩) (by simp [U8]; omega) (ints_oneCell .u8 L) g w0 hb (Nat.le_refl _) fun w' hw' hb' => ?_
  · rcases hsrc with rfl | ⟨b, o', rfl, hlt, hc⟩
    · simp [U8] at hpos
    · refine ⟨_, rfl, fun j v hj => ?_⟩
      rw [Addr.add_lit]
      have hjl : j < L.length := by have := (List.getElem?_eq_some_iff.1 hj).1; simpa [U8] using this
      have hv : v = .int .u8 (L.getD j 0) := by simp [U8, hjl] at hj; simp [hjl, hj]
      rw [hv]
      exact (hb.cell (by exact hlt)).trans (hc j hjl)
  · have hsp : splice Z 0 (U8 L) = U8 L := by
      unfold splice
      rw [List.take_zero, List.nil_append, List.drop_of_length_le (by simp [U8]; omega), List.append_nil]
    have hh := hw'.out
    rw [hsp] at hh
    refine h w' (.inr ⟨g, 0, rfl, Nat.lt_succ_self _, fun i hi => ?_⟩) (Array.getElem?_eq_some_iff.1 hh).1 hb'
    rw [Nat.zero_add, cell_of_row w' g i _ 5 (0, 0) hh]
    simp [U8, hi]

end Go.Proofs.Qxb6630020a
