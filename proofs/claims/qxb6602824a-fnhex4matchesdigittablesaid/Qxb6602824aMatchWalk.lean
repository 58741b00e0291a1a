import Derived.Test.Qxb6602824aDigit
namespace Go.Proofs.Qxb6602824a
open Go.RowKit

/-- The table's sign at place p. -/
def tabv (p : Nat) : Int := if p < 16 then digch p false else 49 + (p : Int)

theorem tab_at (d : Nat) (h : d < (ByteArray.mk #[48, 49, 50, 51, 52, 53, 54, 55, 56, 57, 97, 98, 99, 100, 101, 102, 65, 66, 67, 68, 69, 70]).size) :
    ((((ByteArray.mk #[48, 49, 50, 51, 52, 53, 54, 55, 56, 57, 97, 98, 99, 100, 101, 102, 65, 66, 67, 68, 69, 70])[d]'h).toNat : Nat) : Int) = tabv d := by
  have h22 : d < 22 := h
  have hs : d = 0 ∨ d = 1 ∨ d = 2 ∨ d = 3 ∨ d = 4 ∨ d = 5 ∨ d = 6 ∨ d = 7 ∨ d = 8 ∨ d = 9 ∨ d = 10 ∨ d = 11 ∨ d = 12 ∨ d = 13 ∨ d = 14 ∨ d = 15 ∨ d = 16 ∨ d = 17 ∨ d = 18 ∨ d = 19 ∨ d = 20 ∨ d = 21 := by omega
  rcases hs with rfl | rfl | rfl | rfl | rfl | rfl | rfl | rfl | rfl | rfl | rfl | rfl | rfl | rfl | rfl | rfl | rfl | rfl | rfl | rfl | rfl | rfl <;> rfl

theorem hexv_tab {p : Nat} (h : p < 22) : hexv (tabv p) = some (if p < 16 then (p : Int) else (p : Int) - 6) := by
  unfold tabv
  by_cases h16 : p < 16
  · rw [if_pos h16, if_pos h16]; exact hexv_digch h16
  · rw [if_neg h16, if_neg h16]
    unfold hexv
    rw [if_neg (by omega), if_neg (by omega), if_pos (by omega)]
    congr 1
    omega

theorem hexv_miss {c : Int} (h : ∀ p, p < 22 → tabv p ≠ c) : hexv c = none := by
  unfold hexv
  by_cases h1 : 48 ≤ c ∧ c ≤ 57
  · exfalso
    apply h (c - 48).toNat (by omega)
    unfold tabv digch
    rw [if_pos (by omega), if_pos (by omega)]
    omega
  · rw [if_neg h1]
    by_cases h2 : 97 ≤ c ∧ c ≤ 102
    · exfalso
      apply h (c - 87).toNat (by omega)
      unfold tabv digch
      rw [if_pos (by omega), if_neg (by omega)]
      simp only [Bool.false_eq_true, if_false]
      omega
    · rw [if_neg h2]
      by_cases h3 : 65 ≤ c ∧ c ≤ 70
      · exfalso
        apply h (c - 49).toNat (by omega)
        unfold tabv
        rw [if_neg (by omega)]
        omega
      · rw [if_neg h3]

/-- What mDigitValue answers. -/
def DigR (c d : Int) : Prop := (hexv c = none ∧ d = -1) ∨ (hexv c = some d ∧ 0 ≤ d ∧ d ≤ 15)

set_option maxHeartbeats 1600000 in
set_option maxRecDepth 100000 in
theorem digitValue_any (c : Int) (w : World) : Calls Try.prog 20 #[.int .u8 c] w fun e w' => ∃ d, e = .returned (.int .i64 d) ∧ DigR c d ∧ w' = w := by
  go_enter Try.func20, Try.ntmps20
  go_wp2_with fail
  go_loopg [3] 22 (fun g i wr => w = wr ∧ ∃ (p : Nat), p ≤ 22 ∧ g = 22 - p ∧ i = .int .i64 p ∧ ∀ q, q < p → tabv q ≠ c)
  case atStart => exact ⟨rfl, 0, Nat.zero_le _, rfl, rfl, fun q hq => absurd hq (Nat.not_lt_zero _)⟩
  case round =>
    obtain ⟨rfl, p, hp, rfl, rfl, hne⟩ := hrel
    have HNE : Hid (∀ q, q < p → tabv q ≠ c) := hne
    clear hne
    by_cases hlt : p < 22
    · have hz1 : (p : Int) < 22 := by omega
      have hta := tab_at p (by show p < 22; exact hlt)
      by_cases e : tabv p = c
      · have HV : Hid (hexv c = some (if p < 16 then (p : Int) else (p : Int) - 6)) := by show _ = _; rw [← e]; exact hexv_tab hlt
        rw [e] at hta
        clear e
        by_cases h16 : (p : Int) < 16
        · go_wp2_with fail
          go_ret
          refine ⟨(p : Int), rfl, Or.inr ⟨?_, by omega, by omega⟩, rfl⟩
          rw [HV.out, if_pos (by omega)]
        · go_wp2_with fail
          go_ret
          refine ⟨(p : Int) - 6, rfl, Or.inr ⟨?_, by omega, by omega⟩, rfl⟩
          rw [HV.out, if_neg (by omega)]
      · have he : (tabv p == c) = false := beq_eq_false_iff_ne.2 e
        have HE : Hid (tabv p ≠ c) := e
        clear e
        go_wp2_with fail
        go_roundg (22 - (p + 1))
        case measure => go_light; omega
        case rel =>
          go_light
          refine ⟨rfl, p + 1, by omega, rfl, by simp, fun q hq => ?_⟩
          by_cases e : q = p
          · subst e; exact HE.out
          · exact HNE.out q (by omega)
    · have hz1 : ¬ (p : Int) < 22 := by omega
      go_wp2_with fail
      go_ret
      exact ⟨-1, rfl, Or.inl ⟨hexv_miss (fun q hq => HNE.out q (by omega)), rfl⟩, rfl⟩

theorem hexR_four {n : Nat} {z : Nat → Int} (hn : 4 ≤ n) {d0 d1 d2 d3 : Int} (h0 : hexv (z 0) = some d0) (h1 : hexv (z 1) = some d1) (h2 : hexv (z 2) = some d2) (h3 : hexv (z 3) = some d3) :
    hexR n z = some (d0 * 4096 + d1 * 256 + d2 * 16 + d3) := by
  rw [hexR, if_neg (by omega)]
  have e1 := hx_next (z := z) (k := 0) rfl h0
  have e2 := hx_next e1 h1
  have e3 := hx_next e2 h2
  have e4 := hx_next e3 h3
  rw [e4]
  congr 1
  omega

theorem hexR_bad {n : Nat} {z : Nat → Int} {k : Nat} (hk : k < 4) (h : hexv (z k) = none) : hexR n z = none := by
  rw [hexR]
  by_cases hn : n < 4
  · rw [if_pos hn]
  · rw [if_neg hn]
    exact hx_none (hx_bad h) (by omega)

set_option maxHeartbeats 1600000 in
set_option maxRecDepth 100000 in
theorem hexModel_any (A : Option Addr) (N : Bool) (n c : Nat) (z : Nat → Int) (w : World) (hn : n ≤ 2097152) (h : Sl w (.slice A n c) N n z) :
    Calls Try.prog 10 #[.slice A n c] w fun e w' => e = .returned (hexVal (hexR n z)) ∧ w' = w := by
  obtain ⟨hN, hnc, _, hz⟩ := sl_lit h
  by_cases h4 : (n : Int) < 4
  · have HR : Hid (hexR n z = none) := by show _ = _; rw [hexR, if_pos (by omega)]
    go_enter Try.func10, Try.ntmps10
    go_wp2
    go_ret2
    exact ⟨by rw [HR.out]; rfl, rfl⟩
  · obtain ⟨b, o, rfl, c0⟩ := hz 0 (by omega)
    have hall : ∀ i, i < n → w.cell? ⟨b, o + i, none⟩ = some (.int .u8 (z i)) := fun i hi => by
      obtain ⟨b', o', e', hc'⟩ := hz i hi
      simp only [Option.some.injEq, Addr.mk.injEq, and_true] at e'
      obtain ⟨rfl, rfl⟩ := e'
      exact hc'
    have c1 := hall 1 (by omega)
    have c2 := hall 2 (by omega)
    have c3 := hall 3 (by omega)
    rw [Nat.add_zero] at c0
    have hn4 : (4 : Int) ≤ (n : Int) := by omega
    clear hz hN h hall
    go_enter Try.func10, Try.ntmps10
    go_wp2_with fail
    refine (digitValue_any (z 0) _).mono ?_
    rintro e w1 ⟨d0, rfl, g0, hw⟩
    obtain rfl := hw.symm
    have G0 : Hid (DigR (z 0) d0) := g0
    clear g0
    go_wp2_with fail
    refine (digitValue_any (z 1) _).mono ?_
    rintro e w1 ⟨d1, rfl, g1, hw⟩
    obtain rfl := hw.symm
    have G1 : Hid (DigR (z 1) d1) := g1
    clear g1
    go_wp2_with fail
    refine (digitValue_any (z 2) _).mono ?_
    rintro e w1 ⟨d2, rfl, g2, hw⟩
    obtain rfl := hw.symm
    have G2 : Hid (DigR (z 2) d2) := g2
    clear g2
    go_wp2_with fail
    refine (digitValue_any (z 3) _).mono ?_
    rintro e w1 ⟨d3, rfl, g3, hw⟩
    obtain rfl := hw.symm
    have G3 : Hid (DigR (z 3) d3) := g3
    clear g3 c0 c1 c2 c3
    rcases G0.out with ⟨k0, rfl⟩ | ⟨k0, l0, u0⟩
    · have HN : Hid (hexR n z = none) := hexR_bad (k := 0) (by decide) k0
      clear k0
      go_wp2_with fail
      go_ret2
      exact ⟨by rw [HN.out]; rfl, rfl⟩
    rcases G1.out with ⟨k1, rfl⟩ | ⟨k1, l1, u1⟩
    · have HN : Hid (hexR n z = none) := hexR_bad (k := 1) (by decide) k1
      clear k0 k1
      go_wp2_with fail
      go_ret2
      exact ⟨by rw [HN.out]; rfl, rfl⟩
    rcases G2.out with ⟨k2, rfl⟩ | ⟨k2, l2, u2⟩
    · have HN : Hid (hexR n z = none) := hexR_bad (k := 2) (by decide) k2
      clear k0 k1 k2
      go_wp2_with fail
      go_ret2
      exact ⟨by rw [HN.out]; rfl, rfl⟩
    rcases G3.out with ⟨k3, rfl⟩ | ⟨k3, l3, u3⟩
    · have HN : Hid (hexR n z = none) := hexR_bad (k := 3) (by decide) k3
      clear k0 k1 k2 k3
      go_wp2_with fail
      go_ret2
      exact ⟨by rw [HN.out]; rfl, rfl⟩
    have HN : Hid (hexR n z = some (d0 * 4096 + d1 * 256 + d2 * 16 + d3)) := hexR_four (by omega) k0 k1 k2 k3
    clear k0 k1 k2 k3
    go_wp2_with fail
    go_ret2
    exact ⟨by rw [HN.out]; rfl, rfl⟩

set_option maxHeartbeats 1600000 in
set_option maxRecDepth 100000 in
theorem match_walk (A : Option Addr) (N : Bool) (n c : Nat) (z : Nat → Int) (w : World) (h : Sl w (.slice A n c) N n z) (hb : Byt n z) :
    Calls Try.prog 3 #[.slice A n c] w fun e w' => e = .returned (.bool true) ∧ Below w.heap.size w w' := by
  go_enter Try.func3, Try.ntmps3
  go_wp2_with fail
  refine (bytesMatches_any A n c _).mono ?_
  rintro e w1 ⟨⟨t, rfl⟩, rfl⟩
  cases t
  · go_wp2_with fail
    go_ret
    exact ⟨rfl, Below.refl _ _⟩
  by_cases hn : (1048576 : Int) < (n : Int)
  · go_wp2_with fail
    go_ret
    exact ⟨rfl, Below.refl _ _⟩
  have hn' : n ≤ 1048576 := by omega
  go_wp2_with fail
  refine (clone_any A N n c z _ hn' h).mono ?_
  rintro e w2 ⟨A2, rfl, h2, hb2⟩
  go_wp2_with fail
  refine (zhex4_any A2 N n n z _ (by omega) h2 hb).mono ?_
  rintro e w3 ⟨rfl, hw⟩
  obtain rfl := hw.symm
  unfold hexVal
  go_wp2_with fail
  refine (hexModel_any A2 N n n z _ (by omega) h2).mono ?_
  rintro e w3 ⟨rfl, hw⟩
  obtain rfl := hw.symm
  unfold hexVal
  generalize (hexR n z).getD 0 = v
  generalize (hexR n z).isSome = t
  cases t
  all_goals
    go_wp2_with fail
    go_ret
    exact ⟨rfl, hb2⟩
end Go.Proofs.Qxb6602824a
