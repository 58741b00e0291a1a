import Derived.Test.Qxb6602824aRaw
namespace Go.Proofs.Qxb6602824a
open Go.RowKit

def nullS : ByteArray := ⟨#[110, 117, 108, 108]⟩

theorem nullS_cells : byteCells nullS = ucells nullL := rfl

theorem run_append_null (w : World) (ty : TypeId) (A : Option Addr) (N : Bool) (D : List Int) (hd : D.length ≤ 1048576) (h : Sl w (.slice A D.length D.length) N D.length (fun i => D.getD i 0)) :
    ∃ A' c'' w', (Builtin.append_ #[22, 9] ty #[.slice A D.length D.length, .string nullS]).run Try.prog w = .ok (.slice A' (D.length + 4) c'') w' ∧ Dst w.heap.size w' A' c'' (D ++ nullL) ∧ Below w.heap.size w w' := by
  obtain ⟨i, hi, hz, hs, hby⟩ := info_parts Try.info5
  have hsrc := sl_src h
  have hsr : Src Try.prog i.size 9 (.string nullS) 4 (ucells nullL) w := by
    rw [hs, ← nullS_cells]
    exact Src.ofString w Try.underlying9 nullS
  have hold : (Builtin.firstCells i.size D.length (.slice A D.length D.length)).run Try.prog w.drew = .ok (ucells D).toArray w.drew := by
    cases A with
    | none =>
      have h0 := (hsrc.1 rfl).1
      have hD : D = [] := List.eq_nil_of_length_eq_zero h0
      subst hD
      rfl
    | some a => exact run_firstCells_some (P := Try.prog) w.drew i.size D.length a D.length D.length (ucells D) (by rw [ucells_len, hs, Nat.mul_one]) (fun j u hu => hsrc.2 a rfl j u hu)
  have hr := run_append_grow_src (P := Try.prog) (w := w) 22 9 ty 5 i (.int .u8 0) Try.underlying22 hi hz A D.length D.length (ucells D) hold (.string nullS) 4 (ucells nullL) hsr (by omega) (by omega) (growslice_fits (by omega) (by rw [hby]; omega))
  have hge := grownCap_ge w (D.length + 4) D.length 5
  have hcm : grownCap w (D.length + 4) D.length 5 ≤ maxLen := grownCap_le_maxLen w (D.length + 4) D.length 5 (by unfold maxLen; omega)
  have h4 : (ucells nullL).length = 4 := rfl
  have hlen : (ucells D ++ ucells nullL).length = D.length + 4 := by rw [List.length_append, ucells_len, h4]
  refine ⟨_, _, _, hr, .inr ?_, ⟨rfl, rfl, rfl, by simp, fun k hk => Below.heap_alloc w.drew _ k hk⟩⟩
  rw [List.length_append, ucells_append]
  refine ⟨by rw [List.length_append, ucells_len, h4]; show D.length + 4 = (D.length + 4) * 1; omega, .inr ⟨w.heap.size, _, _, rfl, Nat.le_refl _, heap_alloc_new w.drew _, hge, hcm, ?_, ?_⟩⟩
  · simp only [Array.size_append, List.size_toArray, size_zeroCells, hlen]
    show D.length + 4 + (grownCap w (D.length + 4) D.length 5 - (D.length + 4)) * 1 = _
    omega
  · simp only [Array.toList_append]
    have e : (D.length + nullL.length) * 1 = (ucells D ++ ucells nullL).length := by rw [hlen]; show (D.length + 4) * 1 = _; omega
    rw [e]
    exact List.take_left

theorem wpList_append_null (w : World) {ops : Array Oper} {rest : List Oper} {o : Oper} {a : Act} {Q : Exit → Act → World → Prop}
    (hg : o.guard = none) (s x : Operand) (hop : o.op = Op.call { callee := Callee.builtin Builtin.append, args := #[s, x], argTypes := #[22, 9] })
    (A : Option Addr) (N : Bool) (D : List Int) (hd : D.length ≤ 1048576) (h : Sl w (.slice A D.length D.length) N D.length (fun i => D.getD i 0)) (hs : a.eval s = .slice A D.length D.length) (hx : a.eval x = .string nullS)
    (hK : ∀ A' c'' w', Dst w.heap.size w' A' c'' (D ++ nullL) → Below w.heap.size w w' → wpList Try.prog ops Q rest (a.put o.dst (.slice A' (D ++ nullL).length c'')) w') :
    wpList Try.prog ops Q (o :: rest) a w := by
  refine wpList_plain hg fun K hK' => ?_
  obtain ⟨A', c'', w', hrun, h1, h2⟩ := run_append_null w o.type A N D hd h
  unfold Oper.wp
  simp [execOp, hop, resolve, invoke, builtin, hs, hx, hrun, Result.andThen]
  have := hK A' c'' w' h1 h2
  rw [List.length_append] at this
  exact hK' _ _ this

set_option maxHeartbeats 800000 in
set_option maxRecDepth 100000 in
theorem appendRaw_nil (A : Option Addr) (N : Bool) (D : List Int) (n c : Nat) (w : World) (hd : D.length ≤ 1048576) (h : Sl w (.slice A D.length D.length) N D.length (fun i => D.getD i 0)) :
    Calls Try.prog 15 #[.slice A D.length D.length, .slice none n c] w fun e w' => PassR w (D ++ nullL) e w' := by
  have hnil := Try.nil22
  go_enter Try.func15, Try.ntmps15
  go_wp2_with (at_builtin; refine wpList_append_null _ rfl (.tmp 12) _ rfl A N D hd h rfl rfl ?_)
  intro A1 c1 w1 hD1 hb1
  go_wp2_with fail
  go_ret
  exact ⟨A1, c1, by simp only [List.length_append]; rfl, hD1, hb1⟩

theorem clone_any2 (A : Option Addr) (N : Bool) (n c : Nat) (z : Nat → Int) (w : World) (hn : n ≤ 1048576) (h : Sl w (.slice A n c) N n z) :
    Calls Try.prog 8 #[.slice A n c] w fun e w' => ∃ A', e = .returned (.slice A' n n) ∧ Sl w' (.slice A' n n) N n z ∧ Below w.heap.size w w' ∧ (N = false → ∃ g, A' = some ⟨g, 0, none⟩) := by
  obtain ⟨hN, hnc, hc0, hz⟩ := sl_lit h
  cases A with
  | none =>
    refine (clone_nil n c w).mono fun e w' ⟨he, hw⟩ => ?_
    subst hw
    have : c = 0 := hc0 rfl
    have hn0 : n = 0 := by omega
    subst hn0
    exact ⟨none, he, ⟨none, 0, rfl, hN, Nat.le_refl _, fun _ => rfl, fun i hi => absurd hi (Nat.not_lt_zero _)⟩, Below.refl _ _, fun e => by rw [e] at hN; cases hN⟩
  | some a =>
    refine (clone_some a n c z w hn hz).mono fun e w' ⟨he, hw⟩ => ?_
    subst hN
    exact ⟨_, he, hw.sl, hw.below, fun _ => ⟨_, rfl⟩⟩

/-- A slice that reads as z, as a list. -/
def lst (n : Nat) (z : Nat → Int) : List Int := (List.range n).map z

theorem lst_len (n : Nat) (z : Nat → Int) : (lst n z).length = n := by simp [lst]

theorem sl_lst {w : World} {v : Value} {N : Bool} {n : Nat} {z : Nat → Int} (h : Sl w v N n z) : Sl w v N n (fun i => (lst n z).getD i 0) := by
  obtain ⟨A, c, rfl, h1, h2, h3, h4⟩ := h
  refine ⟨A, c, rfl, h1, h2, h3, fun i hi => ?_⟩
  obtain ⟨b, o, e, hc⟩ := h4 i hi
  refine ⟨b, o, e, ?_⟩
  rw [hc]
  simp [lst, List.getD_eq_getElem?_getD, hi]

/-- The bound laid by program. -/
def SomeB2 (e : Ending) : Prop := ∃ t, e = .returned (.bool t)

theorem bytesRaw_any (A : Option Addr) (n c : Nat) (A' : Option Addr) (n' c' : Nat) (w : World) : Calls Try.prog 13 #[.slice A n c, .slice A' n' c'] w fun e w' => SomeB2 e ∧ w' = w := by
  by_cases h1 : (1048576 : Int) < (n : Int)
  · go_enter Try.func13, Try.ntmps13
    go_wp2
    go_ret
    exact ⟨⟨_, rfl⟩, rfl⟩
  by_cases h2 : (1048576 : Int) < (n' : Int)
  · go_enter Try.func13, Try.ntmps13
    go_wp2
    go_ret
    exact ⟨⟨_, rfl⟩, rfl⟩
  by_cases h3 : (1048576 : Int) < (n : Int) + (n' : Int)
  · go_enter Try.func13, Try.ntmps13
    go_wp2
    go_ret
    exact ⟨⟨_, rfl⟩, rfl⟩
  · go_enter Try.func13, Try.ntmps13
    go_wp2
    go_ret
    exact ⟨⟨_, rfl⟩, rfl⟩

/-- dst, full, as AppendRaw takes it. -/
theorem dst_full {w : World} {A : Option Addr} {N : Bool} {D : List Int} (h : Sl w (.slice A D.length D.length) N D.length (fun i => D.getD i 0)) : Dst w.heap.size w A D.length D := by
  obtain ⟨_, _, h2, hz⟩ := sl_lit h
  refine .inl ⟨rfl, h2, fun i hi => ?_⟩
  obtain ⟨b, o, e, hc⟩ := hz i hi
  exact ⟨b, o, e, World.block_lt_of_cell? _ _ hc, hc⟩

set_option maxHeartbeats 1600000 in
set_option maxRecDepth 100000 in
theorem raw_walk (A : Option Addr) (N : Bool) (n c : Nat) (z : Nat → Int) (A' : Option Addr) (N' : Bool) (n' c' : Nat) (z' : Nat → Int) (w : World) (h : Sl w (.slice A n c) N n z) (_hb : Byt n z) (h' : Sl w (.slice A' n' c') N' n' z') (_hb' : Byt n' z') :
    Calls Try.prog 5 #[.slice A n c, .slice A' n' c'] w fun e w' => e = .returned (.bool true) ∧ Below w.heap.size w w' := by
  go_enter Try.func5, Try.ntmps5
  go_wp2_with fail
  refine (bytesRaw_any A n c A' n' c' _).mono ?_
  rintro e w1 ⟨⟨t, rfl⟩, rfl⟩
  cases t
  · go_wp2_with fail
    go_ret
    exact ⟨rfl, Below.refl _ _⟩
  by_cases h1 : (1048576 : Int) < (n : Int)
  · go_wp2_with fail
    go_ret
    exact ⟨rfl, Below.refl _ _⟩
  by_cases h2 : (1048576 : Int) < (n' : Int)
  · go_wp2_with fail
    go_ret
    exact ⟨rfl, Below.refl _ _⟩
  by_cases h3 : (1048576 : Int) < (n : Int) + (n' : Int)
  · go_wp2_with fail
    go_ret
    exact ⟨rfl, Below.refl _ _⟩
  have hn : n ≤ 1048576 := by omega
  have hn' : n' ≤ 1048576 := by omega
  go_wp2_with fail
  refine (clone_any2 A N n c z _ hn h).mono ?_
  rintro e w2 ⟨A2, rfl, s2, b2, _⟩
  go_wp2_with fail
  refine (clone_any2 A' N' n' c' z' _ hn' (h'.below b2 (Nat.le_refl _))).mono ?_
  rintro e w3 ⟨A3, rfl, s3, b3, hA3⟩
  have t2 := sl_lst (s2.below b3 (Nat.le_refl _))
  have t3 := sl_lst s3
  have hz2 := b2.size
  have hb13 : Below w1.heap.size w1 w3 := b2.trans (b3.mono hz2)
  have hl2 := lst_len n z
  have hl3 := lst_len n' z'
  generalize lst n z = D at *
  generalize lst n' z' = R at *
  subst hl2
  subst hl3
  clear h h' s2 s3 b2 b3 hz2 h1 h2 h3
  go_wp2_with fail
  refine (rawModel_any A2 N D D.length A3 N' R R.length _ hn hn' t2 t3).mono ?_
  rintro e w4 ⟨A4, c4, rfl, d4, b4⟩
  have u2 := t2.below b4 (Nat.le_refl _)
  have u3 := t3.below b4 (Nat.le_refl _)
  have hz3 := hb13.size
  have hz4 := b4.size
  have hb14 : Below w1.heap.size w1 w4 := hb13.trans (b4.mono hz3)
  have hE : (D ++ (if N' = true then nullL else esc1 true 0 false false R)).length ≤ 16777216 := by
    have q1 := esc_len true R 0 false false
    have q2 : nullL.length = 4 := rfl
    rw [List.length_append]
    split <;> omega
  generalize hEq : D ++ (if N' = true then nullL else esc1 true 0 false false R) = E at *
  have HEQ : Hid (D ++ (if N' = true then nullL else esc1 true 0 false false R) = E) := hEq
  clear hEq
  cases N' with
  | true =>
    have HE1 : Hid (D ++ nullL = E) := HEQ.out
    have hA : A3 = none := by have := (sl_lit u3).1; cases A3 with | none => rfl | some a => cases this
    subst hA
    go_wp2_with fail
    refine (appendRaw_nil A2 N D R.length R.length _ hn u2).mono ?_
    rintro e w5 ⟨A5, c5, rfl, d5, b5⟩
    rw [HE1.out] at d5 ⊢
    have v4 := d4.sl.below b5 (Nat.le_refl _)
    have v5 := d5.sl
    have hb15 : Below w1.heap.size w1 w5 := hb14.trans (b5.mono (by omega))
    go_wp2_with fail
    refine (same_any A5 A4 _ _ E.length c5 c4 _ _ (by omega) v5 v4).mono ?_
    rintro e w6 ⟨rfl, b6⟩
    have hb16 : Below w1.heap.size w1 w6 := hb15.trans (b6.mono hb15.size)
    clear d4 d5 v4 v5 b4 b5 b6 u2 u3 t2 t3
    go_wp2_with fail
    go_ret
    exact ⟨rfl, hb16⟩
  | false =>
    have HE1 : Hid (D ++ esc1 true 0 false false R = E) := HEQ.out
    obtain ⟨g, rfl⟩ := hA3 rfl
    go_wp2_with fail
    refine (appendRaw_some A2 D D.length g 0 R R.length _ hn hn' (dst_full u2) u3).mono ?_
    rintro e w5 ⟨A5, c5, rfl, d5, b5⟩
    rw [HE1.out] at d5 ⊢
    have v4 := d4.sl.below b5 (Nat.le_refl _)
    have v5 := d5.sl
    have hb15 : Below w1.heap.size w1 w5 := hb14.trans (b5.mono (by omega))
    go_wp2_with fail
    refine (same_any A5 A4 _ _ E.length c5 c4 _ _ (by omega) v5 v4).mono ?_
    rintro e w6 ⟨rfl, b6⟩
    have hb16 : Below w1.heap.size w1 w6 := hb15.trans (b6.mono hb15.size)
    clear d4 d5 v4 v5 b4 b5 b6 u2 u3 t2 t3
    go_wp2_with fail
    go_ret
    exact ⟨rfl, hb16⟩
end Go.Proofs.Qxb6602824a
