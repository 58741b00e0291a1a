/-
  Plain functions, no Go in sight: what ownLiterals computes (row by row, a table), the sizes of the trees, and the laws on them.
-/
namespace Go.Proofs.Qxb6600792a

/-- What one composition has gathered behind k of its parts: none where it is refused. -/
def accRow (T : Nat → Option (List Int)) (lim : Int) (z : Nat → Int) : Nat → Option (List Int)
  | 0 => some []
  | k + 1 =>
    match accRow T lim z k with
    | none => none
    | some l =>
      match T (z k).toNat with
      | none => none
      | some x => if lim < (l.length : Int) + (x.length : Int) then none else some (l ++ x)

def ownOne (T : Nat → Option (List Int)) (n lim : Int) (nil : Bool) (len : Nat) (z : Nat → Int) (i : Nat) : Option (List Int) :=
  if nil = true then (if (i : Int) < n then some [(i : Int)] else none)
  else if len = 0 then none else accRow T lim z len

/-- The table of what the first i segments join. -/
def ownTab (n lim : Int) (N : Nat → Bool) (L : Nat → Nat) (Z : Nat → Nat → Int) : Nat → Nat → Option (List Int)
  | 0 => fun _ => none
  | i + 1 => fun j => if j = i then ownOne (ownTab n lim N L Z i) n lim (N i) (L i) (Z i) i else ownTab n lim N L Z i j

section
variable {n lim : Int} {N : Nat → Bool} {L : Nat → Nat} {Z : Nat → Nat → Int}

theorem ownTab_ge : ∀ {i j : Nat}, i ≤ j → ownTab n lim N L Z i j = none
  | 0, _, _ => rfl
  | i + 1, j, h => by
    show (if j = i then _ else _) = none
    rw [if_neg (by omega)]
    exact ownTab_ge (by omega)

theorem ownTab_at (i : Nat) : ownTab n lim N L Z (i + 1) i = ownOne (ownTab n lim N L Z i) n lim (N i) (L i) (Z i) i := by
  show (if i = i then _ else _) = _
  rw [if_pos rfl]

theorem ownTab_other {i j : Nat} (h : j ≠ i) : ownTab n lim N L Z (i + 1) j = ownTab n lim N L Z i j := by
  show (if j = i then _ else _) = _
  rw [if_neg h]

theorem ownTab_lt : ∀ {i j : Nat}, j < i → ownTab n lim N L Z i j = ownOne (ownTab n lim N L Z j) n lim (N j) (L j) (Z j) j
  | i + 1, j, h => by
    by_cases e : j = i
    · subst e; exact ownTab_at j
    · rw [ownTab_other e]
      exact ownTab_lt (by omega)

variable {T : Nat → Option (List Int)} {z : Nat → Int}

theorem accRow_none {k k' : Nat} (h : accRow T lim z k = none) (hk : k ≤ k') : accRow T lim z k' = none := by
  induction k' with
  | zero => obtain rfl : k = 0 := by omega
            exact h
  | succ m ih =>
    by_cases e : k = m + 1
    · subst e; exact h
    · have := ih (by omega)
      simp only [accRow, this]

theorem accRow_refused {k : Nat} (h : T (z k).toNat = none) : accRow T lim z (k + 1) = none := by
  simp only [accRow, h]
  cases accRow T lim z k <;> rfl

theorem accRow_over {k : Nat} {l x : List Int} (h : accRow T lim z k = some l) (hx : T (z k).toNat = some x) (ho : lim < (l.length : Int) + (x.length : Int)) : accRow T lim z (k + 1) = none := by
  simp only [accRow, h, hx, if_pos ho]

theorem accRow_next {k : Nat} {l x : List Int} (h : accRow T lim z k = some l) (hx : T (z k).toNat = some x) (ho : ¬ lim < (l.length : Int) + (x.length : Int)) : accRow T lim z (k + 1) = some (l ++ x) := by
  simp only [accRow, h, hx, if_neg ho]

/-- How one step came about. -/
theorem accRow_succ {k : Nat} {l : List Int} (h : accRow T lim z (k + 1) = some l) : ∃ l0 x, accRow T lim z k = some l0 ∧ T (z k).toNat = some x ∧ ¬ lim < (l0.length : Int) + (x.length : Int) ∧ l = l0 ++ x := by
  cases h1 : accRow T lim z k with
  | none => simp only [accRow, h1] at h; cases h
  | some l0 =>
    cases h2 : T (z k).toNat with
    | none => simp only [accRow, h1, h2] at h; cases h
    | some x =>
      simp only [accRow, h1, h2] at h
      by_cases ho : lim < (l0.length : Int) + (x.length : Int)
      · rw [if_pos ho] at h; cases h
      · rw [if_neg ho] at h
        exact ⟨l0, x, rfl, rfl, ho, (Option.some.inj h).symm⟩

theorem accRow_len {k : Nat} {l : List Int} (h : accRow T lim z (k + 1) = some l) : (l.length : Int) ≤ lim := by
  obtain ⟨l0, x, _, _, ho, rfl⟩ := accRow_succ h
  rw [List.length_append]
  omega

theorem accRow_pos (hT : ∀ j x, T j = some x → 0 < x.length) {k : Nat} {l : List Int} (h : accRow T lim z (k + 1) = some l) : 0 < l.length := by
  obtain ⟨l0, x, _, hx, _, rfl⟩ := accRow_succ h
  have := hT _ _ hx
  rw [List.length_append]
  omega

/-- Each part of a composition that is not refused is resolved. -/
theorem accRow_parts {k : Nat} : ∀ {l : List Int}, accRow T lim z k = some l → ∀ i, i < k → ∃ x, T (z i).toNat = some x := by
  induction k with
  | zero => intro l _ i hi; omega
  | succ k ih =>
    intro l h i hi
    obtain ⟨l0, x, h0, hx, _, _⟩ := accRow_succ h
    by_cases e : i = k
    · subst e; exact ⟨x, hx⟩
    · exact ih h0 i (by omega)

/-- Each entry comes out of a part. -/
theorem accRow_mem {k : Nat} : ∀ {l : List Int}, accRow T lim z k = some l → ∀ e ∈ l, ∃ i x, i < k ∧ T (z i).toNat = some x ∧ e ∈ x := by
  induction k with
  | zero =>
    intro l h e he
    have : l = [] := (Option.some.inj h).symm
    rw [this] at he
    cases he
  | succ k ih =>
    intro l h e he
    obtain ⟨l0, x, h0, hx, _, rfl⟩ := accRow_succ h
    rcases List.mem_append.1 he with he | he
    · obtain ⟨i, x', hi, hx', hm⟩ := ih h0 e he
      exact ⟨i, x', by omega, hx', hm⟩
    · exact ⟨k, x, by omega, hx, he⟩

theorem ownTab_pos : ∀ {i j : Nat} {l : List Int}, ownTab n lim N L Z i j = some l → 0 < l.length
  | 0, _, _, h => by cases h
  | i + 1, j, l, h => by
    by_cases e : j = i
    · subst e
      rw [ownTab_at] at h
      unfold ownOne at h
      by_cases hN : N j = true
      · rw [if_pos hN] at h
        by_cases hn : (j : Int) < n
        · rw [if_pos hn] at h
          obtain rfl := Option.some.inj h
          simp
        · rw [if_neg hn] at h; cases h
      · rw [if_neg hN] at h
        by_cases h0 : L j = 0
        · rw [if_pos h0] at h; cases h
        · rw [if_neg h0] at h
          obtain ⟨k, hk⟩ : ∃ k, L j = k + 1 := ⟨L j - 1, by omega⟩
          rw [hk] at h
          exact accRow_pos (fun _ _ hx => ownTab_pos hx) h
    · rw [ownTab_other e] at h
      exact ownTab_pos h

/-- A nil segment. -/
theorem own_lit {G i : Nat} (hi : i < G) (hN : N i = true) : ownTab n lim N L Z G i = if (i : Int) < n then some [(i : Int)] else none := by
  rw [ownTab_lt hi, ownOne, if_pos hN]

theorem own_empty {G i : Nat} (hi : i < G) (hN : N i = false) (h0 : L i = 0) : ownTab n lim N L Z G i = none := by
  rw [ownTab_lt hi, ownOne, if_neg (by rw [hN]; simp), if_pos h0]

theorem own_comp {G i : Nat} (hi : i < G) (hN : N i = false) (h0 : L i ≠ 0) : ownTab n lim N L Z G i = accRow (ownTab n lim N L Z i) lim (Z i) (L i) := by
  rw [ownTab_lt hi, ownOne, if_neg (by rw [hN]; simp), if_neg h0]

/-- A composition that names a segment which is not earlier is refused. -/
theorem own_late {G i k : Nat} (hi : i < G) (hN : N i = false) (hk : k < L i) (hz : (i : Int) ≤ Z i k) : ownTab n lim N L Z G i = none := by
  rw [own_comp hi hN (by omega)]
  exact accRow_none (accRow_refused (ownTab_ge (by omega))) hk

/-- What a resolved composition holds. -/
theorem own_bounds {G i : Nat} {l : List Int} (hi : i < G) (hN : N i = false) (h : ownTab n lim N L Z G i = some l) : 0 < l.length ∧ (l.length : Int) ≤ lim := by
  refine ⟨ownTab_pos h, ?_⟩
  have h0 : L i ≠ 0 := fun e => by rw [own_empty hi hN e] at h; cases h
  rw [own_comp hi hN h0] at h
  obtain ⟨k, hk⟩ : ∃ k, L i = k + 1 := ⟨L i - 1, by omega⟩
  rw [hk] at h
  exact accRow_len h

theorem own_entries : ∀ (i : Nat) {l : List Int}, ownTab n lim N L Z (i + 1) i = some l → ∀ e ∈ l, 0 ≤ e ∧ e ≤ i ∧ (N i = false → e < i) ∧ e < n ∧ N e.toNat = true := by
  intro i
  induction i using Nat.strongRecOn with
  | ind i ih =>
    intro l h e he
    cases hN : N i with
    | true =>
      rw [own_lit (Nat.lt_succ_self i) hN] at h
      by_cases hn : (i : Int) < n
      · rw [if_pos hn] at h
        obtain rfl := Option.some.inj h
        obtain rfl : e = (i : Int) := by simpa using he
        exact ⟨by omega, by omega, (fun h => by cases h), hn, by simpa using hN⟩
      · rw [if_neg hn] at h; cases h
    | false =>
      have h0 : L i ≠ 0 := fun e => by rw [own_empty (Nat.lt_succ_self i) hN e] at h; cases h
      rw [own_comp (Nat.lt_succ_self i) hN h0] at h
      obtain ⟨k, x, hk, hx, hex⟩ := accRow_mem h e he
      have hlt : (Z i k).toNat < i := by
        apply Nat.lt_of_not_le
        intro hle
        rw [ownTab_ge hle] at hx
        cases hx
      rw [ownTab_lt hlt, ← ownTab_at] at hx
      obtain ⟨h1, h2, _, h4, h5⟩ := ih _ hlt hx e hex
      exact ⟨h1, by omega, fun _ => by omega, h4, h5⟩

end

/-! ### The sizes of the trees -/

def szRow (T : Nat → Nat) (i : Nat) (z : Nat → Int) : Nat → Nat
  | 0 => 1
  | k + 1 => szRow T i z k + (if 0 ≤ z k ∧ z k < (i : Int) then T (z k).toNat else 1)

def szTab (L : Nat → Nat) (Z : Nat → Nat → Int) : Nat → Nat → Nat
  | 0 => fun _ => 0
  | i + 1 => fun j => if j = i then szRow (szTab L Z i) i (Z i) (L i) else szTab L Z i j

section
variable {L : Nat → Nat} {Z : Nat → Nat → Int}

theorem szTab_at (i : Nat) : szTab L Z (i + 1) i = szRow (szTab L Z i) i (Z i) (L i) := by
  show (if i = i then _ else _) = _
  rw [if_pos rfl]

theorem szTab_other {i j : Nat} (h : j ≠ i) : szTab L Z (i + 1) j = szTab L Z i j := by
  show (if j = i then _ else _) = _
  rw [if_neg h]

theorem szTab_lt : ∀ {i j : Nat}, j < i → szTab L Z i j = szTab L Z (j + 1) j
  | i + 1, j, h => by
    by_cases e : j = i
    · subst e; rfl
    · rw [szTab_other e]
      exact szTab_lt (by omega)

theorem szRow_mono (T : Nat → Nat) (i : Nat) (z : Nat → Int) {k k' : Nat} (h : k ≤ k') : szRow T i z k ≤ szRow T i z k' := by
  induction k' with
  | zero => obtain rfl : k = 0 := by omega
            exact Nat.le_refl _
  | succ m ih =>
    by_cases e : k = m + 1
    · subst e; exact Nat.le_refl _
    · have := ih (by omega)
      show _ ≤ szRow T i z m + _
      omega

theorem szRow_pos (T : Nat → Nat) (i : Nat) (z : Nat → Int) (k : Nat) : 1 ≤ szRow T i z k := szRow_mono T i z (Nat.zero_le k)

variable {n lim : Int} {N : Nat → Bool}

/-- What is gathered is no longer than the tree is large. -/
theorem acc_le_sz {T : Nat → Option (List Int)} {S : Nat → Nat} {i : Nat} {z : Nat → Int} (hT : ∀ j x, T j = some x → j < i ∧ x.length ≤ S j) {K : Nat} (hz : ∀ k, k < K → 0 ≤ z k) :
    ∀ k, k ≤ K → ∀ l, accRow T lim z k = some l → l.length + 1 ≤ szRow S i z k := by
  intro k
  induction k with
  | zero =>
    intro _ l h
    have : l = [] := (Option.some.inj h).symm
    rw [this]
    exact Nat.le_refl _
  | succ k ih =>
    intro hk l h
    obtain ⟨l0, x, h0, hx, _, rfl⟩ := accRow_succ h
    have h1 := ih (by omega) l0 h0
    obtain ⟨h2, h3⟩ := hT _ _ hx
    have h4 := hz k (by omega)
    rw [List.length_append]
    show _ ≤ szRow S i z k + (if _ then _ else _)
    rw [if_pos ⟨h4, by omega⟩]
    omega

theorem own_le_sz {G : Nat} (hz : ∀ r, r < G → ∀ k, k < L r → 0 ≤ Z r k) : ∀ i, i ≤ G → ∀ j x, ownTab n lim N L Z i j = some x → j < i ∧ x.length ≤ szTab L Z i j := by
  intro i
  induction i with
  | zero => intro _ j x h; cases h
  | succ i ih =>
    intro hi j x h
    by_cases e : j = i
    · subst e
      refine ⟨by omega, ?_⟩
      rw [szTab_at]
      rw [ownTab_at, ownOne] at h
      by_cases hN : N j = true
      · rw [if_pos hN] at h
        by_cases hn : (j : Int) < n
        · rw [if_pos hn] at h
          obtain rfl := Option.some.inj h
          exact szRow_pos _ _ _ _
        · rw [if_neg hn] at h; cases h
      · rw [if_neg hN] at h
        by_cases h0 : L j = 0
        · rw [if_pos h0] at h; cases h
        · rw [if_neg h0] at h
          have := acc_le_sz (ih (by omega)) (K := L j) (hz j (by omega)) (L j) (Nat.le_refl _) x h
          omega
    · rw [ownTab_other e] at h
      rw [szTab_other e]
      obtain ⟨h1, h2⟩ := ih (by omega) j x h
      exact ⟨by omega, h2⟩

/-- THE BOUND that the walk of ownLiterals asks, out of the trees' sizes. -/
theorem acc_bound {G B : Nat} (hz : ∀ r, r < G → ∀ k, k < L r → 0 ≤ Z r k) (hB : ∀ r, r < G → szTab L Z G r ≤ B) {i : Nat} (hi : i < G) {k : Nat} (hk : k ≤ L i) {l : List Int} (h : accRow (ownTab n lim N L Z i) lim (Z i) k = some l) : l.length ≤ B := by
  have h1 := acc_le_sz (own_le_sz hz i (by omega)) (K := L i) (hz i hi) k hk l h
  have h2 := szRow_mono (szTab L Z i) i (Z i) hk
  rw [← szTab_at, ← szTab_lt hi] at h2
  have := hB i hi
  omega

end
end Go.Proofs.Qxb6600792a
