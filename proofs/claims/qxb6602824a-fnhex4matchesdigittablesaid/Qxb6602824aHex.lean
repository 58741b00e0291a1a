import Derived.Test.Qxb6602824aBase
import Derived.Laws.BitsLemmas
namespace Go.Proofs.Qxb6602824a
open Go.RowKit

/-- The value of one hexadecimal digit. -/
def hexv (c : Int) : Option Int :=
  if 48 ≤ c ∧ c ≤ 57 then some (c - 48) else if 97 ≤ c ∧ c ≤ 102 then some (c - 87) else if 65 ≤ c ∧ c ≤ 70 then some (c - 55) else none

/-- What the first k digits write. -/
def hx (z : Nat → Int) : Nat → Option Int
  | 0 => some 0
  | k + 1 =>
    match hx z k, hexv (z k) with
    | some a, some d => some (a * 16 + d)
    | _, _ => none

theorem hexv_bd {c d : Int} (h : hexv c = some d) : 0 ≤ d ∧ d ≤ 15 := by
  unfold hexv at h
  by_cases h1 : 48 ≤ c ∧ c ≤ 57
  · rw [if_pos h1] at h; have := Option.some.inj h; omega
  · rw [if_neg h1] at h
    by_cases h2 : 97 ≤ c ∧ c ≤ 102
    · rw [if_pos h2] at h; have := Option.some.inj h; omega
    · rw [if_neg h2] at h
      by_cases h3 : 65 ≤ c ∧ c ≤ 70
      · rw [if_pos h3] at h; have := Option.some.inj h; omega
      · rw [if_neg h3] at h; cases h

theorem hx_none {z : Nat → Int} {k k' : Nat} (h : hx z k = none) (hk : k ≤ k') : hx z k' = none := by
  induction k' with
  | zero => obtain rfl : k = 0 := by omega
            exact h
  | succ m ih =>
    by_cases e : k = m + 1
    · subst e; exact h
    · have := ih (by omega)
      simp only [hx, this]

theorem hx_bad {z : Nat → Int} {k : Nat} (h : hexv (z k) = none) : hx z (k + 1) = none := by
  simp only [hx, h]
  cases hx z k <;> rfl

theorem hx_next {z : Nat → Int} {k : Nat} {a d : Int} (h : hx z k = some a) (hd : hexv (z k) = some d) : hx z (k + 1) = some (a * 16 + d) := by
  simp only [hx, h, hd]

theorem i32_or4 {a d : Int} (h0 : 0 ≤ a) (h1 : a < 4096) (h2 : 0 ≤ d) (h3 : d ≤ 15) : bits .or .i32 (a * 16) d = a * 16 + d :=
  bits_join .i32 31 (by decide) wraps_i32 4 (a * 16) d (by omega) (by show a * 16 % 16 = 0; omega) (by show a * 16 < 2147483648; omega) h2 (by show d < 16; omega) (by show d < 2147483648; omega)

/-- What one digit's round leaves. -/
theorem hx_round {z : Nat → Int} {k : Nat} {a cc d : Int} (h : hx z k = some a) (hc : z k = cc) (hv : hexv cc = some d) (h0 : 0 ≤ a) (h1 : a < 4096) :
    bits .or .i32 (a * 16) d = a * 16 + d ∧ hx z (k + 1) = some (a * 16 + d) ∧ 0 ≤ a * 16 + d ∧ a * 16 + d < 65536 := by
  have hb := hexv_bd hv
  exact ⟨i32_or4 h0 h1 hb.1 hb.2, hx_next h (by rw [hc]; exact hv), by omega, by omega⟩

/-- What hex4 answers. -/
def hexR (n : Nat) (z : Nat → Int) : Option Int := if n < 4 then none else hx z 4

def hexVal (o : Option Int) : Value := .tuple #[.int .i32 (o.getD 0), .bool o.isSome]

theorem isDigit_any (c : Int) (w : World) (h0 : 0 ≤ c) (h1 : c ≤ 255) : Calls Try.prog 24 #[.int .u8 c] w fun e w' => e = .returned (.bool (decide (48 ≤ c ∧ c ≤ 57))) ∧ w' = w := by
  by_cases h2 : 48 ≤ c
  · by_cases h3 : c ≤ 57
    · go_enter Try.func24, Try.ntmps24
      go_wp2
      go_ret
      exact ⟨by simp [h2, h3], rfl⟩
    · go_enter Try.func24, Try.ntmps24
      go_wp2
      go_ret
      exact ⟨by simp [h3], rfl⟩
  · go_enter Try.func24, Try.ntmps24
    go_wp2
    go_ret
    exact ⟨by simp; omega, rfl⟩

set_option maxHeartbeats 1600000 in
set_option maxRecDepth 100000 in
theorem hex4_any (A : Option Addr) (N : Bool) (n c : Nat) (z : Nat → Int) (w : World) (hn : n ≤ 2097152) (h : Sl w (.slice A n c) N n z) (hb : Byt n z) :
    Calls Try.prog 19 #[.slice A n c] w fun e w' => e = .returned (hexVal (hexR n z)) ∧ w' = w := by
  obtain ⟨hN, hnc, _, hz⟩ := sl_lit h
  by_cases h4 : (n : Int) < 4
  · have HR : Hid (hexR n z = none) := by show _ = _; rw [hexR, if_pos (by omega)]
    go_enter Try.func19, Try.ntmps19
    go_wp2
    go_ret2
    exact ⟨by rw [HR.out]; rfl, rfl⟩
  · have HR : Hid (hexR n z = hx z 4) := by show _ = _; rw [hexR, if_neg (by omega)]
    obtain ⟨b, o, rfl, _⟩ := hz 0 (by omega)
    have HZ : Hid (∀ i, i < n → w.cell? ⟨b, o + i, none⟩ = some (.int .u8 (z i))) := fun i hi => by
      obtain ⟨b', o', e', hc'⟩ := hz i hi
      simp only [Option.some.injEq, Addr.mk.injEq, and_true] at e'
      obtain ⟨rfl, rfl⟩ := e'
      exact hc'
    have hc4 : (4 : Int) ≤ (c : Int) := by omega
    clear hz hN h
    go_enter Try.func19, Try.ntmps19
    go_wp2_with fail
    go_loopg [4, 13] 4 (fun g s i wr => w = wr ∧ ∃ (k : Nat) (a : Int), k ≤ 4 ∧ g = 4 - k ∧ i = .int .i64 k ∧ s = .int .i32 a ∧ hx z k = some a ∧ 0 ≤ a ∧ a < (16 : Int) ^ k)
    case atStart => exact ⟨rfl, 0, 0, Nat.zero_le _, rfl, rfl, rfl, rfl, by decide, by decide⟩
    case round =>
      obtain ⟨rfl, k, a, hk, rfl, rfl, rfl, hh, ha0, ha1⟩ := hrel
      have HH : Hid (hx z k = some a) := hh
      have HA : Hid (a < (16 : Int) ^ k) := ha1
      clear hh ha1
      by_cases hlt : k < 4
      · have hc := HZ.out k (by omega)
        have hbk := hb k (by omega)
        obtain ⟨cc, hcc⟩ : ∃ cc, z k = cc := ⟨_, rfl⟩
        have HCC : Hid (z k = cc) := hcc
        rw [hcc] at hc hbk
        obtain ⟨b0, b1⟩ := hbk
        have ha3 : a < 4096 := by
          have := HA.out
          have hk3 : k = 0 ∨ k = 1 ∨ k = 2 ∨ k = 3 := by omega
          rcases hk3 with rfl | rfl | rfl | rfl <;> simp at this <;> omega
        have hz1 : (k : Int) < 4 := by omega
        have HP : Hid (∀ d : Int, 0 ≤ d → d ≤ 15 → a * 16 + d < (16 : Int) ^ (k + 1)) := fun d _ h15 => by
          have := HA.out
          rw [Int.pow_succ]
          omega
        clear hcc
        by_cases d1 : 48 ≤ cc ∧ cc ≤ 57
        · have HV : Hid (hexv cc = some (cc - 48)) := by show _ = _; rw [hexv, if_pos d1]
          obtain ⟨d1a, d1b⟩ := d1
          go_wp2_with (go_at_call 24; refine (isDigit_any cc _ b0 b1).mono ?_; rintro e w' ⟨rfl, rfl⟩)
          go_roundg (4 - (k + 1))
          case measure => go_light; omega
          case rel =>
            go_light
            obtain ⟨q1, q2, q3, q4⟩ := hx_round HH.out HCC.out HV.out ha0 ha3
            exact ⟨rfl, k + 1, _, by omega, rfl, by simp, by rw [q1], q2, q3, HP.out _ (by omega) (by omega)⟩
        · have d1' : decide (48 ≤ cc ∧ cc ≤ 57) = false := by simpa using d1
          by_cases d2 : 97 ≤ cc ∧ cc ≤ 102
          · have HV : Hid (hexv cc = some (cc - 87)) := by show _ = _; rw [hexv, if_neg d1, if_pos d2]
            obtain ⟨d2a, d2b⟩ := d2
            clear d1
            go_wp2_with (go_at_call 24; refine (isDigit_any cc _ b0 b1).mono ?_; rintro e w' ⟨rfl, rfl⟩)
            go_roundg (4 - (k + 1))
            case measure => go_light; omega
            case rel =>
              go_light
              obtain ⟨q1, q2, q3, q4⟩ := hx_round HH.out HCC.out HV.out ha0 ha3
              exact ⟨rfl, k + 1, _, by omega, rfl, by simp, by rw [q1], q2, q3, HP.out _ (by omega) (by omega)⟩
          · by_cases d3 : 65 ≤ cc ∧ cc ≤ 70
            · have HV : Hid (hexv cc = some (cc - 55)) := by show _ = _; rw [hexv, if_neg d1, if_neg d2, if_pos d3]
              obtain ⟨d3a, d3b⟩ := d3
              clear d1 d2
              have d2' : ¬ 97 ≤ cc := by omega
              go_wp2_with (go_at_call 24; refine (isDigit_any cc _ b0 b1).mono ?_; rintro e w' ⟨rfl, rfl⟩)
              go_roundg (4 - (k + 1))
              case measure => go_light; omega
              case rel =>
                go_light
                obtain ⟨q1, q2, q3, q4⟩ := hx_round HH.out HCC.out HV.out ha0 ha3
                exact ⟨rfl, k + 1, _, by omega, rfl, by simp, by rw [q1], q2, q3, HP.out _ (by omega) (by omega)⟩
            · have HN : Hid (hexR n z = none) := by
                show _ = _
                rw [HR.out]
                exact hx_none (hx_bad (k := k) (by rw [HCC.out, hexv, if_neg d1, if_neg d2, if_neg d3])) (by omega)
              have hcs : cc < 48 ∨ (57 < cc ∧ cc < 65) ∨ (70 < cc ∧ cc < 97) ∨ 102 < cc := by omega
              clear d1 d2 d3
              rcases hcs with h | ⟨h, h'⟩ | ⟨h, h'⟩ | h
              all_goals
                go_wp2_with (go_at_call 24; refine (isDigit_any cc _ b0 b1).mono ?_; rintro e w' ⟨rfl, rfl⟩)
                go_ret2
                exact ⟨by rw [HN.out]; rfl, rfl⟩
      · have hz1 : ¬ (k : Int) < 4 := by omega
        obtain rfl : k = 4 := by omega
        have HF : Hid (hexR n z = some a) := by show _ = _; rw [HR.out, HH.out]
        go_wp2_with fail
        go_ret2
        exact ⟨by rw [HF.out]; rfl, rfl⟩

/-- ZZHex4 hands hex4's answer on. -/
theorem zhex4_any (A : Option Addr) (N : Bool) (n c : Nat) (z : Nat → Int) (w : World) (hn : n ≤ 2097152) (h : Sl w (.slice A n c) N n z) (hb : Byt n z) :
    Calls Try.prog 9 #[.slice A n c] w fun e w' => e = .returned (hexVal (hexR n z)) ∧ w' = w := by
  go_enter Try.func9, Try.ntmps9
  go_wp2_with fail
  refine (hex4_any A N n c z _ hn h hb).mono ?_
  rintro e w1 ⟨rfl, rfl⟩
  unfold hexVal
  go_wp2_with fail
  go_ret2
  exact ⟨rfl, rfl⟩

theorem hexR_bd {n : Nat} {z : Nat → Int} {v : Int} (h : hexR n z = some v) : 4 ≤ n ∧ hx z 4 = some v := by
  unfold hexR at h
  by_cases hn : n < 4
  · rw [if_pos hn] at h; cases h
  · rw [if_neg hn] at h; exact ⟨by omega, h⟩
end Go.Proofs.Qxb6602824a
