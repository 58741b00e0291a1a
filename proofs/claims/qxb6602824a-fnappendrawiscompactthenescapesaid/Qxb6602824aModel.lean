import Derived.Test.Qxb6602824aEscape
import Derived.Deep.QuietTactic
import Derived.BigQuiet
namespace Go.Proofs.Qxb6602824a
open Go.RowKit

theorem cmp_len : ∀ (l : List Int) (s e : Bool), (cmp s e l).length ≤ l.length
  | [], s, e => by cases s <;> cases e <;> simp [cmp]
  | c :: l, s, e => by
    cases s with
    | false =>
      have h1 := cmp_len l false e
      have h2 := cmp_len l (c == 34) e
      simp only [cmp]
      by_cases hs : sp c = true
      · rw [if_pos hs, List.length_cons]; omega
      · rw [if_neg hs, List.length_cons, List.length_cons]; omega
    | true =>
      cases e with
      | true =>
        have h1 := cmp_len l true false
        simp only [cmp, List.length_cons]; omega
      | false =>
        have h1 := cmp_len l true false
        have h2 := cmp_len l true true
        have h3 := cmp_len l false false
        simp only [cmp, List.length_cons]
        by_cases h92 : c = 92
        · rw [if_pos h92]; omega
        · rw [if_neg h92]
          by_cases h34 : c = 34
          · rw [if_pos h34]; omega
          · rw [if_neg h34]; omega

theorem esc_len (d : Bool) : ∀ (l : List Int) (k : Nat) (s e : Bool), (esc1 d k s e l).length ≤ 6 * l.length
  | [], k, s, e => by cases k <;> cases s <;> cases e <;> simp [esc1]
  | c :: l, k, s, e => by
    cases k with
    | succ k =>
      have h1 := esc_len d l k s e
      simp only [esc1, List.length_cons]; omega
    | zero =>
      cases s with
      | false =>
        have h1 := esc_len d l 0 false e
        have h2 := esc_len d l 0 (c == 34) e
        simp only [esc1]
        by_cases hs : (d && sp c) = true
        · rw [if_pos hs, List.length_cons]; omega
        · rw [if_neg hs, List.length_cons, List.length_cons]; omega
      | true =>
        cases e with
        | true =>
          have h1 := esc_len d l 0 true false
          simp only [esc1, List.length_cons]; omega
        | false =>
          have h1 := esc_len d l 0 true false
          have h2 := esc_len d l 0 true true
          have h3 := esc_len d l 0 false false
          have h4 := esc_len d l 2 true false
          have p1 : eLt.length = 6 := rfl
          have p2 : eGt.length = 6 := rfl
          have p3 : eAm.length = 6 := rfl
          have p4 : eL8.length = 6 := rfl
          have p5 : eL9.length = 6 := rfl
          simp only [esc1, List.length_cons]
          by_cases c1 : c = 92
          · rw [if_pos c1, List.length_cons]; omega
          rw [if_neg c1]
          by_cases c2 : c = 34
          · rw [if_pos c2, List.length_cons]; omega
          rw [if_neg c2]
          by_cases c3 : c = 60
          · rw [if_pos c3, List.length_append]; omega
          rw [if_neg c3]
          by_cases c4 : c = 62
          · rw [if_pos c4, List.length_append]; omega
          rw [if_neg c4]
          by_cases c5 : c = 38
          · rw [if_pos c5, List.length_append]; omega
          rw [if_neg c5]
          by_cases c6 : c = 226 ∧ l.take 2 = [128, 168]
          · rw [if_pos c6, List.length_append]; omega
          rw [if_neg c6]
          by_cases c7 : c = 226 ∧ l.take 2 = [128, 169]
          · rw [if_pos c7, List.length_append]; omega
          rw [if_neg c7, List.length_cons]; omega

def nullL : List Int := [110, 117, 108, 108]

/-- A slice that reads as a list, as what is appended. -/
theorem sl_src {w : World} {A : Option Addr} {N : Bool} {c : Nat} {L : List Int} (h : Sl w (.slice A L.length c) N L.length (fun i => L.getD i 0)) :
    (A = none → L.length = 0 ∧ c = 0) ∧ ∀ b, A = some b → ∀ j u, (ucells L)[j]? = some u → w.cell? (b.add j) = some u := by
  obtain ⟨_, h1, h2, hz⟩ := sl_lit h
  refine ⟨fun e => by have := h2 e; omega, fun b hb j u hu => ?_⟩
  have hj : j < L.length := by
    have := (List.getElem?_eq_some_iff.1 hu).1
    rwa [ucells_len] at this
  obtain ⟨b', o, e, hc⟩ := hz j hj
  rw [hb] at e
  obtain rfl := Option.some.inj e
  rw [Go.WideShapes.add_plain, hc, ← hu, ucells_at hj]

set_option maxHeartbeats 1600000 in
set_option maxRecDepth 100000 in
theorem rawModel_any (Ad : Option Addr) (Nd : Bool) (D : List Int) (cd : Nat) (Ar : Option Addr) (Nr : Bool) (R : List Int) (cr : Nat) (w : World) (hd : D.length ≤ 1048576) (hr : R.length ≤ 1048576)
    (h : Sl w (.slice Ad D.length cd) Nd D.length (fun i => D.getD i 0)) (h' : Sl w (.slice Ar R.length cr) Nr R.length (fun i => R.getD i 0)) :
    Calls Try.prog 14 #[.slice Ad D.length cd, .slice Ar R.length cr] w fun e w' => PassR w (D ++ (if Nr = true then nullL else esc1 true 0 false false R)) e w' := by
  have hnil := Try.nil22
  have hmk := run_make_out (D.length + 4) (by omega)
  rw [show ((D.length + 4 : Nat) : Int) = (D.length : Int) + 4 from by omega] at hmk
  have hNr := (sl_lit h').1
  have h0 := dst_made w (D.length + 4) (by omega)
  have hb0 : Below w.heap.size w (w.alloc (.cells (madeCells #[.int .u8 0] (D.length + 4)) 5)) := (Below.refl _ _).alloc (Nat.le_refl _) _
  have HS : Hid ((Ad = none → D.length = 0 ∧ cd = 0) ∧ ∀ b, Ad = some b → ∀ j u, (ucells D)[j]? = some u → (w.alloc (.cells (madeCells #[.int .u8 0] (D.length + 4)) 5)).cell? (b.add j) = some u) := sl_src (h.below hb0 (Nat.le_refl _))
  go_enter Try.func14, Try.ntmps14
  go_wp2_with (at_builtin; refine wpList_append_dst _ rfl (.tmp 10) (.tmp 11) rfl rfl h0 (by simp) Ad cd D.length D rfl rfl HS.out.1 HS.out.2 ?_ ?_)
  · simp; omega
  · intro A1 c1 w1 hD1 hb1
    have hbl1 : Below w.heap.size w w1 := hb0.trans hb1
    have hs1 := hbl1.size
    have hw1 : w.heap.size + 1 ≤ w1.heap.size := by have := hb1.size; simpa using this
    clear hmk h0 hb0 HS hb1
    cases Nr with
    | true =>
      have hA : Ar = none := by cases Ar with | none => rfl | some a => cases hNr
      subst hA
      have hsrc : Hid (∀ ad, (some ⟨w1.heap.size, 0, none⟩ : Option Addr) = some ad → ∀ j u, (ucells nullL)[j]? = some u → (w1.alloc (.cells #[.int .u8 110, .int .u8 117, .int .u8 108, .int .u8 108] 5)).cell? (ad.add j) = some u) := new_src w1 nullL _ rfl
      have hD2 : Hid (∀ ob, Dst w.heap.size (w1.alloc ob) A1 c1 D) := fun ob => hD1.keep ((Below.refl _ _).alloc (Nat.le_refl _) ob) hs1
      clear hNr
      go_wp2_with (at_builtin; refine wpList_append_dst _ rfl (.tmp 15) (.tmp 16) rfl rfl (hD2.out _) (by simp; omega) _ _ _ nullL rfl rfl (fun h => by cases h) hsrc.out ?_ ?_)
      · first | omega | (simp [nullL]; omega)
      · intro A2 c2 w2 hD3 hb2
        have hbl2 : Below w.heap.size w w2 := (hbl1.alloc hs1 _).trans hb2
        clear hD1 hD2 hbl1 hb2 hsrc
        go_wp2_with fail
        go_ret
        exact ⟨A2, c2, by simp only [List.length_append]; rfl, hD3, hbl2⟩
    | false =>
      have h1 := h'.below hbl1 (Nat.le_refl _)
      go_wp2_with fail
      refine (compact_any Ar false R cr _ hr h1).mono ?_
      rintro e w2 ⟨A2, c2, rfl, hD2, hb2⟩
      go_wp2_with fail
      refine (escape_any A2 _ (cmp false false R) c2 _ (by have := cmp_len R false false; omega) hD2.sl).mono ?_
      rintro e w3 ⟨A3, c3, rfl, hD3, hb3⟩
      have hs2 := hb2.size
      have hs3 := hb3.size
      have hbl3 : Below w1.heap.size w1 w3 := hb2.trans (hb3.mono hs2)
      have hD1' : Dst w.heap.size w3 A1 c1 D := hD1.keep hbl3 hs1
      have hle3 := hD3.le
      have hc3 := hD3.cells
      have hlen : (esc1 false 0 false false (cmp false false R)).length ≤ 6291456 := by
        have h1 := esc_len false (cmp false false R) 0 false false
        have h2 := cmp_len R false false
        omega
      have HE : Hid (esc1 false 0 false false (cmp false false R) = esc1 true 0 false false R) := esc_cmp' R
      generalize esc1 false 0 false false (cmp false false R) = E at *
      have HN : Hid (A3 = none → E.length = 0 ∧ c3 = 0) := hle3.2
      have HC : Hid (∀ b, A3 = some b → ∀ j u, (ucells E)[j]? = some u → w3.cell? (b.add j) = some u) := hc3
      have hbw : Below w.heap.size w w3 := hbl1.trans (hbl3.mono hs1)
      clear hle3 hc3 hD3 hD2 hb2 hb3 hbl3
      go_wp2_with (at_builtin; refine wpList_append_dst _ rfl (.tmp 18) (.tmp 21) rfl rfl hD1' hbw.size A3 c3 E.length E rfl rfl HN.out HC.out ?_ ?_)
      · first | omega | (simp; omega)
      · intro A4 c4 w4 hD4 hb4
        have hbl4 : Below w.heap.size w w4 := hbw.trans hb4
        have hEq := HE.out
        rw [hEq] at hD4 ⊢
        clear hEq
        go_wp2_with fail
        go_ret
        exact ⟨A4, c4, by simp only [List.length_append]; rfl, hD4, hbl4⟩

set_option maxHeartbeats 800000 in
set_option maxRecDepth 100000 in
theorem same_any (A A' : Option Addr) (N N' : Bool) (n c c' : Nat) (z : Nat → Int) (w : World) (hn : n ≤ 1073741824) (h : Sl w (.slice A n c) N n z) (h' : Sl w (.slice A' n c') N' n z) :
    Calls Try.prog 16 #[.slice A n c, .slice A' n c'] w fun e w' => e = .returned (.bool true) ∧ Below w.heap.size w w' := by
  obtain ⟨_, _, _, hz⟩ := sl_lit h
  obtain ⟨_, _, _, hz'⟩ := sl_lit h'
  have HZ : Hid (∀ i, i < n → ∃ b o, A = some ⟨b, o, none⟩ ∧ w.cell? ⟨b, o + i, none⟩ = some (.int .u8 (z i))) := hz
  have HZ' : Hid (∀ i, i < n → ∃ b o, A' = some ⟨b, o, none⟩ ∧ w.cell? ⟨b, o + i, none⟩ = some (.int .u8 (z i))) := hz'
  clear hz hz' h h'
  go_enter Try.func16, Try.ntmps16
  go_wp2_with fail
  go_loopg [5] n (fun g i wr => ∃ (k : Nat), k ≤ n ∧ g = n - k ∧ i = .int .i64 k ∧ Below w.heap.size w wr)
  case atStart => exact ⟨0, Nat.zero_le _, rfl, rfl, Below.refl _ _⟩
  case round =>
    obtain ⟨k, hk, rfl, rfl, hbr⟩ := hrel
    by_cases hlt : k < n
    · obtain ⟨b, o, rfl, hc⟩ := HZ.out k hlt
      obtain ⟨b', o', rfl, hc'⟩ := HZ'.out k hlt
      have hz1 : (k : Int) < (n : Int) := by omega
      have t1 : wr.cell? ⟨b, o + k, none⟩ = some (.int .u8 (z k)) := by rw [hbr.cell (p := ⟨b, o + k, none⟩) (World.block_lt_of_cell? _ _ hc)]; exact hc
      have t2 : wr.cell? ⟨b', o' + k, none⟩ = some (.int .u8 (z k)) := by rw [hbr.cell (p := ⟨b', o' + k, none⟩) (World.block_lt_of_cell? _ _ hc')]; exact hc'
      clear hc hc'
      go_wp2_with fail
      go_quiet (fail)
      go_wp2_with fail
      go_roundg (n - (k + 1))
      case measure => go_light; omega
      case rel => go_light; exact ⟨k + 1, by omega, rfl, by simp, below_drewN hbr _⟩
    · have hz1 : ¬ (k : Int) < (n : Int) := by omega
      go_wp2_with fail
      go_ret
      exact ⟨rfl, hbr⟩
end Go.Proofs.Qxb6602824a
