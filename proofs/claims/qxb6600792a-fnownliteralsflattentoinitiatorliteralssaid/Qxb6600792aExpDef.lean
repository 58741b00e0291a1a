/-
  Plain: the flattening by a stack is what ownLiterals joins.
-/
import Derived.Test.Qxb6600792aOwnDef
namespace Go.Proofs.Qxb6600792a

/-- Two resolved lists, end to end. -/
def comb (a b : Option (List Int)) : Option (List Int) :=
  match a, b with
  | some x, some y => some (x ++ y)
  | _, _ => none

theorem comb_assoc (a b c : Option (List Int)) : comb (comb a b) c = comb a (comb b c) := by
  cases a <;> cases b <;> cases c <;> simp [comb]
theorem comb_nil (a : Option (List Int)) : comb a (some []) = a := by cases a <;> simp [comb]
theorem nil_comb (a : Option (List Int)) : comb (some []) a = a := by cases a <;> simp [comb]
theorem comb_none (a : Option (List Int)) : comb a none = none := by cases a <;> rfl
theorem none_comb (a : Option (List Int)) : comb none a = none := by cases a <;> rfl

/-- The leaves of the first k parts of a composition, with no limit. -/
def lvRow (T : Nat → Option (List Int)) (z : Nat → Int) : Nat → Option (List Int)
  | 0 => some []
  | k + 1 => comb (lvRow T z k) (T (z k).toNat)

def lvOne (T : Nat → Option (List Int)) (n : Int) (nil : Bool) (len : Nat) (z : Nat → Int) (i : Nat) : Option (List Int) :=
  if nil = true then (if (i : Int) < n then some [(i : Int)] else none)
  else if len = 0 then none else lvRow T z len

def lvTab (n : Int) (N : Nat → Bool) (L : Nat → Nat) (Z : Nat → Nat → Int) : Nat → Nat → Option (List Int)
  | 0 => fun _ => none
  | i + 1 => fun j => if j = i then lvOne (lvTab n N L Z i) n (N i) (L i) (Z i) i else lvTab n N L Z i j

/-- What is longer than the limit is refused. -/
def cutAt (lim : Int) (o : Option (List Int)) : Option (List Int) :=
  match o with
  | none => none
  | some l => if lim < (l.length : Int) then none else some l

section
variable {n lim : Int} {N : Nat → Bool} {L : Nat → Nat} {Z : Nat → Nat → Int}

theorem lvTab_ge : ∀ {i j : Nat}, i ≤ j → lvTab n N L Z i j = none
  | 0, _, _ => rfl
  | i + 1, j, h => by
    show (if j = i then _ else _) = none
    rw [if_neg (by omega)]
    exact lvTab_ge (by omega)

theorem lvTab_at (i : Nat) : lvTab n N L Z (i + 1) i = lvOne (lvTab n N L Z i) n (N i) (L i) (Z i) i := by
  show (if i = i then _ else _) = _
  rw [if_pos rfl]

theorem lvTab_other {i j : Nat} (h : j ≠ i) : lvTab n N L Z (i + 1) j = lvTab n N L Z i j := by
  show (if j = i then _ else _) = _
  rw [if_neg h]

theorem lvTab_lt : ∀ {i j : Nat}, j < i → lvTab n N L Z i j = lvOne (lvTab n N L Z j) n (N j) (L j) (Z j) j
  | i + 1, j, h => by
    by_cases e : j = i
    · subst e; exact lvTab_at j
    · rw [lvTab_other e]
      exact lvTab_lt (by omega)

theorem lvTab_stable {i i' j : Nat} (h : j < i) (h' : j < i') : lvTab n N L Z i j = lvTab n N L Z i' j := by rw [lvTab_lt h, lvTab_lt h']

theorem lvRow_pos {T : Nat → Option (List Int)} {z : Nat → Int} (hT : ∀ j x, T j = some x → 0 < x.length) {k : Nat} {l : List Int} (h : lvRow T z (k + 1) = some l) : 0 < l.length := by
  simp only [lvRow] at h
  cases h1 : lvRow T z k with
  | none => rw [h1, none_comb] at h; cases h
  | some a =>
    cases h2 : T (z k).toNat with
    | none => rw [h2, comb_none] at h; cases h
    | some x =>
      rw [h1, h2] at h
      obtain rfl : a ++ x = l := Option.some.inj h
      have := hT _ _ h2
      rw [List.length_append]
      omega

theorem lvTab_pos : ∀ {i j : Nat} {l : List Int}, lvTab n N L Z i j = some l → 0 < l.length
  | 0, _, _, h => by cases h
  | i + 1, j, l, h => by
    by_cases e : j = i
    · subst e
      rw [lvTab_at] at h
      unfold lvOne at h
      by_cases hN : N j = true
      · rw [if_pos hN] at h
        by_cases hn : (j : Int) < n
        · rw [if_pos hn] at h
          obtain rfl := Option.some.inj h
          simp
        · rw [if_neg hn] at h; cases h
      · rw [if_neg hN] at h
        by_cases h0 : L j = 0
        · rw [if_pos h0] at h; cases h
        · rw [if_neg h0] at h
          obtain ⟨k, hk⟩ : ∃ k, L j = k + 1 := ⟨L j - 1, by omega⟩
          rw [hk] at h
          exact lvRow_pos (fun _ _ hx => lvTab_pos hx) h
    · rw [lvTab_other e] at h
      exact lvTab_pos h

/-- With the limit, a composition is what it is without, cut at the limit. -/
theorem acc_lv {T U : Nat → Option (List Int)} {z : Nat → Int} (hT : ∀ j, T j = U j ∨ T j = cutAt lim (U j)) (hU : ∀ j x, U j = some x → 0 < x.length) :
    ∀ k, accRow T lim z (k + 1) = cutAt lim (lvRow U z (k + 1)) ∧ (∀ l, lvRow U z k = some l → accRow T lim z k = some l ∨ (accRow T lim z k = none ∧ lim < (l.length : Int))) ∧ (lvRow U z k = none → accRow T lim z k = none) := by
  intro k
  induction k with
  | zero =>
    refine ⟨?_, fun l h => .inl (by rw [← h]; rfl), fun h => by cases h⟩
    simp only [accRow, lvRow, nil_comb]
    rcases hT (z 0).toNat with e | e
    · rw [e]
      cases U (z 0).toNat with
      | none => rfl
      | some x => simp [cutAt]
    · rw [e]
      cases hu : U (z 0).toNat with
      | none => rfl
      | some x =>
        simp only [cutAt]
        by_cases hl : lim < (x.length : Int)
        · simp [hl]
        · simp [hl]
  | succ k ih =>
    obtain ⟨ih1, _, _⟩ := ih
    have s2 : ∀ l, lvRow U z (k + 1) = some l → accRow T lim z (k + 1) = some l ∨ (accRow T lim z (k + 1) = none ∧ lim < (l.length : Int)) := fun l h => by
      rw [ih1, h]
      simp only [cutAt]
      by_cases hl : lim < (l.length : Int)
      · rw [if_pos hl]; exact .inr ⟨rfl, hl⟩
      · rw [if_neg hl]; exact .inl rfl
    have s3 : lvRow U z (k + 1) = none → accRow T lim z (k + 1) = none := fun h => by rw [ih1, h]; rfl
    refine ⟨?_, s2, s3⟩
    show accRow T lim z (k + 1 + 1) = cutAt lim (comb (lvRow U z (k + 1)) (U (z (k + 1)).toNat))
    cases h1 : lvRow U z (k + 1) with
    | none => rw [none_comb, accRow_none (s3 h1) (Nat.le_succ _)]; rfl
    | some l =>
      cases h2 : U (z (k + 1)).toNat with
      | none =>
        rw [comb_none]
        have : T (z (k + 1)).toNat = none := by
          rcases hT (z (k + 1)).toNat with e | e
          · rw [e, h2]
          · rw [e, h2]; rfl
        rw [accRow_refused this]
        rfl
      | some x =>
        have hx := hU _ _ h2
        show _ = (if lim < (((l ++ x).length : Nat) : Int) then none else some (l ++ x))
        rw [List.length_append]
        rcases s2 l h1 with e | ⟨e, hl⟩
        · rcases hT (z (k + 1)).toNat with e' | e'
          · rw [h2] at e'
            by_cases ho : lim < (l.length : Int) + (x.length : Int)
            · rw [accRow_over e e' ho, if_pos (by omega)]
            · rw [accRow_next e e' ho, if_neg (by omega)]
          · rw [h2] at e'
            simp only [cutAt] at e'
            by_cases hlx : lim < (x.length : Int)
            · rw [if_pos hlx] at e'
              rw [accRow_refused e', if_pos (by omega)]
            · rw [if_neg hlx] at e'
              by_cases ho : lim < (l.length : Int) + (x.length : Int)
              · rw [accRow_over e e' ho, if_pos (by omega)]
              · rw [accRow_next e e' ho, if_neg (by omega)]
        · rw [accRow_none e (Nat.le_succ _), if_pos (by omega)]

theorem own_lv : ∀ (i j : Nat), ownTab n lim N L Z i j = lvTab n N L Z i j ∨ ownTab n lim N L Z i j = cutAt lim (lvTab n N L Z i j) := by
  intro i
  induction i with
  | zero => intro j; exact .inl rfl
  | succ i ih =>
    intro j
    by_cases e : j = i
    · subst e
      rw [ownTab_at, lvTab_at]
      unfold ownOne lvOne
      by_cases hN : N j = true
      · rw [if_pos hN, if_pos hN]; exact .inl rfl
      · rw [if_neg hN, if_neg hN]
        by_cases h0 : L j = 0
        · rw [if_pos h0, if_pos h0]; exact .inl rfl
        · rw [if_neg h0, if_neg h0]
          obtain ⟨k, hk⟩ : ∃ k, L j = k + 1 := ⟨L j - 1, by omega⟩
          rw [hk]
          exact .inr (acc_lv ih (fun _ _ h => lvTab_pos h) k).1
    · rw [ownTab_other e, lvTab_other e]
      exact ih j

theorem own_comp_lv {G i : Nat} (hi : i < G) (hN : N i = false) : ownTab n lim N L Z G i = cutAt lim (lvTab n N L Z G i) := by
  rw [ownTab_lt hi, lvTab_lt hi]
  unfold ownOne lvOne
  have hN' : ¬ N i = true := by rw [hN]; simp
  rw [if_neg hN', if_neg hN']
  by_cases h0 : L i = 0
  · rw [if_pos h0, if_pos h0]; rfl
  · rw [if_neg h0, if_neg h0]
    obtain ⟨k, hk⟩ : ∃ k, L i = k + 1 := ⟨L i - 1, by omega⟩
    rw [hk]
    exact (acc_lv (own_lv i) (fun _ _ h => lvTab_pos h) k).1

/-! ### The stack -/

/-- The leaves of a stack, its top last in the list, first in the leaves. -/
def lvB (lv : Nat → Option (List Int)) : List Int → Option (List Int) := List.foldl (fun acc x => comb (lv x.toNat) acc) (some [])

theorem lvB_nil (lv : Nat → Option (List Int)) : lvB lv [] = some [] := rfl
theorem lvB_snoc (lv : Nat → Option (List Int)) (st : List Int) (x : Int) : lvB lv (st ++ [x]) = comb (lv x.toNat) (lvB lv st) := by
  simp [lvB, List.foldl_append]

/-- A segment of a row, front to back. -/
def lvSeg (lv : Nat → Option (List Int)) (z : Nat → Int) : Nat → Nat → Option (List Int)
  | _, 0 => some []
  | a, p + 1 => comb (lv (z a).toNat) (lvSeg lv z (a + 1) p)

theorem lvSeg_snoc (lv : Nat → Option (List Int)) (z : Nat → Int) : ∀ p a, lvSeg lv z a (p + 1) = comb (lvSeg lv z a p) (lv (z (a + p)).toNat) := by
  intro p
  induction p with
  | zero => intro a; simp [lvSeg, comb_nil, nil_comb]
  | succ p ih =>
    intro a
    show comb (lv (z a).toNat) (lvSeg lv z (a + 1) (p + 1)) = comb (comb (lv (z a).toNat) (lvSeg lv z (a + 1) p)) _
    rw [ih (a + 1), comb_assoc, show a + 1 + p = a + (p + 1) from by omega]

theorem lvSeg_row {lv T : Nat → Option (List Int)} {z : Nat → Int} {K : Nat} (h : ∀ k, k < K → lv (z k).toNat = T (z k).toNat) : ∀ k, k ≤ K → lvSeg lv z 0 k = lvRow T z k := by
  intro k
  induction k with
  | zero => intro _; rfl
  | succ k ih =>
    intro hk
    rw [lvSeg_snoc, ih (by omega), Nat.zero_add, h k (by omega)]
    rfl

/-- The last p parts, pushed back to front. -/
def pushes (z : Nat → Int) (K : Nat) : Nat → List Int
  | 0 => []
  | p + 1 => pushes z K p ++ [z (K - 1 - p)]

theorem pushes_length (z : Nat → Int) (K : Nat) : ∀ p, (pushes z K p).length = p
  | 0 => rfl
  | p + 1 => by simp [pushes, pushes_length z K p]

theorem lvB_pushes (lv : Nat → Option (List Int)) (z : Nat → Int) (K : Nat) (st : List Int) : ∀ p, p ≤ K → lvB lv (st ++ pushes z K p) = comb (lvSeg lv z (K - p) p) (lvB lv st) := by
  intro p
  induction p with
  | zero => intro _; simp [pushes, lvSeg, nil_comb]
  | succ p ih =>
    intro hp
    show lvB lv (st ++ (pushes z K p ++ [z (K - 1 - p)])) = _
    rw [← List.append_assoc, lvB_snoc, ih (by omega), ← comb_assoc]
    show _ = comb (comb (lv (z (K - (p + 1))).toNat) (lvSeg lv z (K - (p + 1) + 1) p)) _
    rw [show K - 1 - p = K - (p + 1) from by omega, show K - (p + 1) + 1 = K - p from by omega]

/-- What the loop will answer from here. -/
def resM (lim : Int) (out : List Int) (o : Option (List Int)) : Option (List Int) :=
  match o with
  | none => none
  | some l => if 0 < l.length ∧ lim < (out.length : Int) + (l.length : Int) then none else some (out ++ l)

theorem resM_end (lim : Int) (out : List Int) : resM lim out (some []) = some out := by simp [resM]

theorem resM_none (lim : Int) (out : List Int) (o : Option (List Int)) : resM lim out (comb none o) = none := by rw [none_comb]; rfl

theorem resM_full {lim : Int} {out : List Int} (h : lim ≤ (out.length : Int)) (x : Int) (o : Option (List Int)) : resM lim out (comb (some [x]) o) = none := by
  cases o with
  | none => rfl
  | some l =>
    show (if _ then _ else _) = none
    rw [if_pos ⟨by simp, by simp only [List.length_append, List.length_cons, List.length_nil]; omega⟩]

theorem resM_leaf {lim : Int} {out : List Int} (h : (out.length : Int) < lim) (x : Int) (o : Option (List Int)) : resM lim out (comb (some [x]) o) = resM lim (out ++ [x]) o := by
  cases o with
  | none => rfl
  | some l =>
    show (if _ then _ else _) = (if _ then _ else _)
    simp only [List.length_append, List.length_cons, List.length_nil]
    by_cases hl : 0 < l.length ∧ lim < ((out.length + (0 + 1) : Nat) : Int) + (l.length : Int)
    · rw [if_pos hl, if_pos ⟨by omega, by omega⟩]
    · rw [if_neg hl, if_neg (by omega)]
      simp

theorem resM_start {o : Option (List Int)} (ho : ∀ l, o = some l → 0 < l.length) : resM lim [] o = cutAt lim o := by
  cases o with
  | none => rfl
  | some l =>
    have := ho l rfl
    show (if _ then _ else _) = (if _ then _ else _)
    by_cases hl : lim < (l.length : Int)
    · rw [if_pos hl, if_pos ⟨this, by simpa using hl⟩]
    · rw [if_neg hl, if_neg (by simp only [List.length_nil]; omega)]
      simp

variable {G : Nat}

/-- What a node's leaves are. -/
theorem lv_nil {i : Nat} (hi : i < G) (hN : N i = true) : lvTab n N L Z G i = if (i : Int) < n then some [(i : Int)] else none := by
  rw [lvTab_lt hi, lvOne, if_pos hN]

theorem lv_empty {i : Nat} (hi : i < G) (hN : N i = false) (h0 : L i = 0) : lvTab n N L Z G i = none := by
  rw [lvTab_lt hi, lvOne, if_neg (by rw [hN]; simp), if_pos h0]

theorem lv_comp {i : Nat} (hi : i < G) (hN : N i = false) (h0 : L i ≠ 0) : lvTab n N L Z G i = lvRow (lvTab n N L Z i) (Z i) (L i) := by
  rw [lvTab_lt hi, lvOne, if_neg (by rw [hN]; simp), if_neg h0]

theorem lvRow_none {T : Nat → Option (List Int)} {z : Nat → Int} {k K : Nat} (h : T (z k).toNat = none) (hk : k < K) : lvRow T z K = none := by
  induction K with
  | zero => omega
  | succ K ih =>
    show comb (lvRow T z K) (T (z K).toNat) = none
    by_cases e : k = K
    · subst e; rw [h, comb_none]
    · rw [ih (by omega), none_comb]

theorem lv_late {i k : Nat} (hi : i < G) (hN : N i = false) (hk : k < L i) (hz : (i : Int) ≤ Z i k) : lvTab n N L Z G i = none := by
  rw [lv_comp hi hN (by omega)]
  exact lvRow_none (lvTab_ge (by omega)) hk

/-- A composition is exchanged for its parts. -/
theorem lvB_node {i : Nat} (hi : i < G) (hN : N i = false) (h0 : L i ≠ 0) (hz : ∀ k, k < L i → 0 ≤ Z i k ∧ Z i k < (i : Int)) (st : List Int) :
    lvB (lvTab n N L Z G) (st ++ pushes (Z i) (L i) (L i)) = comb (lvTab n N L Z G i) (lvB (lvTab n N L Z G) st) := by
  rw [lvB_pushes _ _ _ _ _ (Nat.le_refl _), Nat.sub_self, lv_comp hi hN h0, lvSeg_row (T := lvTab n N L Z i) (K := L i) _ (L i) (Nat.le_refl _)]
  intro k hk
  have := hz k hk
  exact lvTab_stable (by omega) (by omega)

/-! ### The measure -/

/-- The nodes still to come. -/
def szS (sz : Nat → Nat) : List Int → Nat
  | [] => 0
  | x :: s => sz x.toNat + szS sz s

theorem szS_append (sz : Nat → Nat) : ∀ (a b : List Int), szS sz (a ++ b) = szS sz a + szS sz b
  | [], b => by simp [szS]
  | x :: a, b => by
    show sz x.toNat + szS sz (a ++ b) = sz x.toNat + szS sz a + szS sz b
    rw [szS_append sz a b]
    omega

theorem szS_snoc (sz : Nat → Nat) (st : List Int) (x : Int) : szS sz (st ++ [x]) = szS sz st + sz x.toNat := by
  rw [szS_append]; simp [szS]

theorem szTab_pos {i j : Nat} (h : j < i) : 1 ≤ szTab L Z i j := by
  rw [szTab_lt h, szTab_at]
  exact szRow_pos _ _ _ _

theorem szS_len {sz : Nat → Nat} : ∀ {st : List Int}, (∀ x ∈ st, 1 ≤ sz x.toNat) → st.length ≤ szS sz st
  | [], _ => Nat.le_refl _
  | x :: st, h => by
    have h1 := h x (by simp)
    have h2 := szS_len (st := st) (fun y hy => h y (by simp [hy]))
    simp only [List.length_cons, szS]
    omega

/-- The sum over the pushed ones is the row's size less one. -/
theorem szS_pushes_seg {sz T : Nat → Nat} {i : Nat} {z : Nat → Int} {K : Nat} (hT : ∀ k, k < K → 0 ≤ z k ∧ z k < (i : Int) ∧ sz (z k).toNat = T (z k).toNat) :
    ∀ p, p ≤ K → szS sz (pushes z K p) + szRow T i z (K - p) = szRow T i z K := by
  intro p
  induction p with
  | zero => intro _; simp [pushes, szS]
  | succ p ih =>
    intro hp
    show szS sz (pushes z K p ++ [z (K - 1 - p)]) + _ = _
    rw [szS_snoc]
    have h1 := ih (by omega)
    obtain ⟨h2, h3, h4⟩ := hT (K - 1 - p) (by omega)
    have h5 : szRow T i z (K - p) = szRow T i z (K - (p + 1)) + T (z (K - 1 - p)).toNat := by
      rw [show K - p = (K - (p + 1)) + 1 from by omega]
      show szRow T i z (K - (p + 1)) + (if _ then _ else _) = _
      rw [show K - (p + 1) = K - 1 - p from by omega, if_pos ⟨h2, h3⟩]
    rw [h4]
    omega

theorem szS_node {i : Nat} (hi : i < G) (hz : ∀ k, k < L i → 0 ≤ Z i k ∧ Z i k < (i : Int)) : szS (szTab L Z G) (pushes (Z i) (L i) (L i)) + 1 = szTab L Z G i := by
  rw [szTab_lt hi, szTab_at]
  have := szS_pushes_seg (sz := szTab L Z G) (T := szTab L Z i) (i := i) (z := Z i) (K := L i) (fun k hk => by
    have h := hz k hk
    exact ⟨h.1, h.2, by rw [szTab_lt (show (Z i k).toNat < G by omega), szTab_lt (show (Z i k).toNat < i by omega)]⟩) (L i) (Nat.le_refl _)
  rw [Nat.sub_self] at this
  exact this

theorem szTab_ge_len {i : Nat} (hi : i < G) : L i + 1 ≤ szTab L Z G i ∨ ∃ k, k < L i ∧ ¬ ((i : Int) ≤ Z i k ∨ Z i k < 0 ∨ 1 ≤ szTab L Z i (Z i k).toNat) := by
  rw [szTab_lt hi, szTab_at]
  have aux : ∀ K, (∀ k, k < K → ((i : Int) ≤ Z i k ∨ Z i k < 0 ∨ 1 ≤ szTab L Z i (Z i k).toNat)) → K + 1 ≤ szRow (szTab L Z i) i (Z i) K := by
    intro K
    induction K with
    | zero => intro _; exact Nat.le_refl _
    | succ K ih =>
      intro h
      have h1 := ih (fun k hk => h k (by omega))
      have h2 := h K (by omega)
      show _ ≤ szRow (szTab L Z i) i (Z i) K + (if _ then _ else _)
      by_cases hc : 0 ≤ Z i K ∧ Z i K < (i : Int)
      · rw [if_pos hc]
        omega
      · rw [if_neg hc]
        omega
  by_cases h : ∀ k, k < L i → ((i : Int) ≤ Z i k ∨ Z i k < 0 ∨ 1 ≤ szTab L Z i (Z i k).toNat)
  · exact .inl (aux _ h)
  · right
    apply Classical.byContradiction
    intro hn
    exact h (fun k hk => Classical.byContradiction fun hc => hn ⟨k, hk, hc⟩)

theorem len_lt_sz {i : Nat} (hi : i < G) : L i + 1 ≤ szTab L Z G i := by
  rcases szTab_ge_len (L := L) (Z := Z) hi with h | ⟨k, _, hc⟩
  · exact h
  · exfalso
    apply hc
    by_cases h1 : (i : Int) ≤ Z i k
    · exact .inl h1
    · by_cases h2 : Z i k < 0
      · exact .inr (.inl h2)
      · exact .inr (.inr (szTab_pos (by omega)))

end
end Go.Proofs.Qxb6600792a
