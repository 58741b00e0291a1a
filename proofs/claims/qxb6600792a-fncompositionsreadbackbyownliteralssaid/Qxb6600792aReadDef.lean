/-
  Plain: what ownLiterals reads back through compositions over M literals.
-/
import Derived.Test.Qxb6600792aOwnDef
namespace Go.Proofs.Qxb6600792a

def allN (M : Nat) (r : Nat) : Bool := decide (r < M)
def allL (M : Nat) (L : Nat → Nat) (r : Nat) : Nat := if r < M then 0 else L (r - M)
def allZ (M : Nat) (Z : Nat → Nat → Int) (r k : Nat) : Int := if r < M then 0 else Z (r - M) k

section
variable {T : Nat → Option (List Int)} {n lim : Int} {z : Nat → Int}

/-- Over literals alone: what is gathered is the row itself. -/
theorem acc_lits {K : Nat} (hT : ∀ k, k < K → T (z k).toNat = if z k < n then some [z k] else none) :
    ∀ k, k ≤ K → ∀ l, accRow T lim z k = some l → l = (List.range k).map z ∧ (0 < k → (k : Int) ≤ lim) ∧ ∀ i, i < k → z i < n := by
  intro k
  induction k with
  | zero =>
    intro _ l h
    exact ⟨(Option.some.inj h).symm, fun h => absurd h (Nat.lt_irrefl _), fun i hi => absurd hi (Nat.not_lt_zero _)⟩
  | succ k ih =>
    intro hk l h
    obtain ⟨l0, x, h0, hx, ho, rfl⟩ := accRow_succ h
    obtain ⟨r1, _, r3⟩ := ih (by omega) l0 h0
    rw [hT k (by omega)] at hx
    by_cases hn : z k < n
    · rw [if_pos hn] at hx
      obtain rfl := Option.some.inj hx
      refine ⟨by rw [r1, List.range_succ, List.map_append]; rfl, fun _ => ?_, fun i hi => ?_⟩
      · rw [r1] at ho
        simp only [List.length_map, List.length_range, List.length_cons, List.length_nil] at ho
        omega
      · by_cases e : i = k
        · subst e; exact hn
        · exact r3 i (by omega)
    · rw [if_neg hn] at hx; cases hx

theorem acc_lits_ok {K : Nat} (hT : ∀ k, k < K → T (z k).toNat = if z k < n then some [z k] else none) (hn : ∀ k, k < K → z k < n) (hl : (K : Int) ≤ lim) :
    ∀ k, k ≤ K → accRow T lim z k = some ((List.range k).map z) := by
  intro k
  induction k with
  | zero => intro _; rfl
  | succ k ih =>
    intro hk
    have := accRow_next (ih (by omega)) (by rw [hT k (by omega), if_pos (hn k (by omega))]) (by simp only [List.length_map, List.length_range, List.length_cons, List.length_nil]; omega)
    rw [this, List.range_succ, List.map_append]
    rfl
end

section
variable {n lim : Int} {L : Nat → Nat} {Z : Nat → Nat → Int} {M G : Nat}

theorem all_lit {r R : Nat} (hr : r < M) (hR : r < R) : ownTab n lim (allN M) (allL M L) (allZ M Z) R r = if (r : Int) < n then some [(r : Int)] else none := own_lit hR (by simp [allN, hr])

theorem all_T (hin : ∀ r, r < G → ∀ k, k < L r → 0 ≤ Z r k ∧ Z r k < M) {i : Nat} (hi : i < G) : ∀ k, k < L i →
    ownTab n lim (allN M) (allL M L) (allZ M Z) (M + i) (Z i k).toNat = if Z i k < n then some [Z i k] else none := by
  intro k hk
  have h := hin i hi k hk
  rw [all_lit (by omega) (by omega)]
  have e : (((Z i k).toNat : Nat) : Int) = Z i k := by omega
  rw [e]

theorem allN_at (i : Nat) : allN M (M + i) = false := by simp [allN]
theorem allL_at (i : Nat) : allL M L (M + i) = L i := by
  simp only [allL]
  rw [if_neg (by omega), Nat.add_sub_cancel_left]
theorem allZ_at (i : Nat) : allZ M Z (M + i) = Z i := by
  funext k
  simp only [allZ]
  rw [if_neg (by omega), Nat.add_sub_cancel_left]

theorem all_own {i : Nat} (hi : i < G) (h0 : L i ≠ 0) : ownTab n lim (allN M) (allL M L) (allZ M Z) (M + G) (M + i) = accRow (ownTab n lim (allN M) (allL M L) (allZ M Z) (M + i)) lim (Z i) (L i) := by
  rw [own_comp (by omega) (allN_at i) (by rw [allL_at]; exact h0), allL_at, allZ_at]

theorem all_some (hin : ∀ r, r < G → ∀ k, k < L r → 0 ≤ Z r k ∧ Z r k < M) {i : Nat} (hi : i < G) {l : List Int} (h : ownTab n lim (allN M) (allL M L) (allZ M Z) (M + G) (M + i) = some l) :
    1 ≤ L i ∧ (L i : Int) ≤ lim ∧ (∀ k, k < L i → Z i k < n) ∧ l = (List.range (L i)).map (Z i) := by
  have h0 : L i ≠ 0 := fun e => by rw [own_empty (by omega) (allN_at i) (by rw [allL_at]; exact e)] at h; cases h
  rw [all_own hi h0] at h
  obtain ⟨r1, r2, r3⟩ := acc_lits (all_T hin hi) (L i) (Nat.le_refl _) l h
  exact ⟨by omega, r2 (by omega), r3, r1⟩

theorem all_none (hin : ∀ r, r < G → ∀ k, k < L r → 0 ≤ Z r k ∧ Z r k < M) {i : Nat} (hi : i < G) (h : ownTab n lim (allN M) (allL M L) (allZ M Z) (M + G) (M + i) = none) :
    ¬ (1 ≤ L i ∧ (L i : Int) ≤ lim ∧ ∀ k, k < L i → Z i k < n) := by
  rintro ⟨h1, h2, h3⟩
  rw [all_own hi (by omega), acc_lits_ok (all_T hin hi) h3 h2 (L i) (Nat.le_refl _)] at h
  cases h

/-- The bound that the walk of ownLiterals asks. -/
theorem all_bound (hin : ∀ r, r < G → ∀ k, k < L r → 0 ≤ Z r k ∧ Z r k < M) {B : Nat} (hL : ∀ r, r < G → L r ≤ B) : ∀ i, i < M + G → ∀ k, k ≤ allL M L i → ∀ l, accRow (ownTab n lim (allN M) (allL M L) (allZ M Z) i) lim (allZ M Z i) k = some l → l.length ≤ B := by
  intro i hi k hk l h
  by_cases hM : i < M
  · have : allL M L i = 0 := by simp [allL, hM]
    obtain rfl : k = 0 := by omega
    have : l = [] := (Option.some.inj h).symm
    rw [this]
    exact Nat.zero_le _
  · obtain ⟨j, rfl⟩ : ∃ j, i = M + j := ⟨i - M, by omega⟩
    rw [allL_at] at hk
    rw [allZ_at] at h
    obtain ⟨r1, _, _⟩ := acc_lits (all_T hin (show j < G by omega)) k hk l h
    rw [r1]
    have := hL j (by omega)
    simp only [List.length_map, List.length_range]
    omega

theorem all_in (hin : ∀ r, r < G → ∀ k, k < L r → 0 ≤ Z r k ∧ Z r k < M) : ∀ r, r < M + G → ∀ k, k < allL M L r → 0 ≤ allZ M Z r k ∧ allZ M Z r k < ((M + G : Nat) : Int) := by
  intro r hr k hk
  by_cases hM : r < M
  · have : allL M L r = 0 := by simp [allL, hM]
    omega
  · obtain ⟨j, rfl⟩ : ∃ j, r = M + j := ⟨r - M, by omega⟩
    rw [allL_at] at hk
    rw [allZ_at]
    have := hin j (by omega) k hk
    omega
end
end Go.Proofs.Qxb6600792a
