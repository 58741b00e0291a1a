/-
  Plain, no Go in sight: the two passes and the one pass over a JSON text, as functions on lists of bytes, and the law that joins them.
-/
namespace Go.Proofs.Qxb6602824a

def sp (c : Int) : Bool := c == 32 || c == 9 || c == 10 || c == 13

/-- The first pass: drops the white space outside strings. The two Booleans: inside a string; just behind a backslash. -/
def cmp : Bool → Bool → List Int → List Int
  | _, _, [] => []
  | false, e, c :: l => if sp c = true then cmp false e l else c :: cmp (c == 34) e l
  | true, true, c :: l => c :: cmp true false l
  | true, false, c :: l => c :: (if c = 92 then cmp true true l else if c = 34 then cmp false false l else cmp true false l)

def eLt : List Int := [92, 117, 48, 48, 51, 99]
def eGt : List Int := [92, 117, 48, 48, 51, 101]
def eAm : List Int := [92, 117, 48, 48, 50, 54]
def eL8 : List Int := [92, 117, 50, 48, 50, 56]
def eL9 : List Int := [92, 117, 50, 48, 50, 57]

/-- The second pass (d = false), and the one pass that drops and escapes at once (d = true). The number: so many bytes are skipped first. -/
def esc1 (d : Bool) : Nat → Bool → Bool → List Int → List Int
  | _, _, _, [] => []
  | k + 1, s, e, _ :: l => esc1 d k s e l
  | 0, false, e, c :: l => if (d && sp c) = true then esc1 d 0 false e l else c :: esc1 d 0 (c == 34) e l
  | 0, true, true, c :: l => c :: esc1 d 0 true false l
  | 0, true, false, c :: l =>
    if c = 92 then c :: esc1 d 0 true true l
    else if c = 34 then c :: esc1 d 0 false false l
    else if c = 60 then eLt ++ esc1 d 0 true false l
    else if c = 62 then eGt ++ esc1 d 0 true false l
    else if c = 38 then eAm ++ esc1 d 0 true false l
    else if c = 226 ∧ l.take 2 = [128, 168] then eL8 ++ esc1 d 2 true false l
    else if c = 226 ∧ l.take 2 = [128, 169] then eL9 ++ esc1 d 2 true false l
    else c :: esc1 d 0 true false l

theorem cmp_head (l : List Int) : (cmp true false l).take 1 = l.take 1 := by
  cases l <;> simp [cmp]

theorem cmp_take2 (l : List Int) (x : Int) : (cmp true false l).take 2 = [128, x] ↔ l.take 2 = [128, x] := by
  cases l with
  | nil => simp [cmp]
  | cons a l =>
    by_cases ha : a = 128
    · subst ha
      have h := cmp_head l
      simp only [cmp]
      have h1 : ¬ (128 : Int) = 92 := by decide
      have h2 : ¬ (128 : Int) = 34 := by decide
      rw [if_neg h1, if_neg h2]
      simp only [List.take_succ_cons, List.cons.injEq, true_and]
      rw [h]
    · simp only [cmp, List.take_succ_cons, List.cons.injEq]
      constructor
      · intro h; exact absurd h.1 ha
      · intro h; exact absurd h.1 ha

theorem take2_form {l : List Int} {a b : Int} (h : l.take 2 = [a, b]) : ∃ r, l = a :: b :: r := by
  match l, h with
  | x :: y :: r, h =>
    simp only [List.take_succ_cons, List.take_zero, List.cons.injEq, and_true] at h
    exact ⟨r, by rw [h.1, h.2]⟩

theorem esc_skip2 (d s e : Bool) (a b : Int) (r : List Int) : esc1 d 2 s e (a :: b :: r) = esc1 d 0 s e r := by simp [esc1]

theorem cmp_skip (x : Int) (hx : x = 168 ∨ x = 169) (r : List Int) : cmp true false (128 :: x :: r) = 128 :: x :: cmp true false r := by
  rcases hx with rfl | rfl <;> simp [cmp]

/-- THE LAW: the two passes, one behind the other, are the one pass. -/
theorem esc_cmp : ∀ (n : Nat) (l : List Int), l.length ≤ n → ∀ s e, (s = false → e = false) → esc1 false 0 s e (cmp s e l) = esc1 true 0 s e l := by
  intro n
  induction n with
  | zero =>
    intro l hl s e _
    have : l = [] := List.eq_nil_of_length_eq_zero (by omega)
    subst this
    cases s <;> cases e <;> simp [cmp, esc1]
  | succ n ih =>
    intro l hl s e hse
    cases l with
    | nil => cases s <;> cases e <;> simp [cmp, esc1]
    | cons c l =>
      have hl' : l.length ≤ n := by simpa using hl
      cases s with
      | false =>
        have he := hse rfl
        subst he
        by_cases hs : sp c = true
        · simp only [cmp, esc1, hs, if_true, Bool.true_and]
          exact ih l hl' false false (fun _ => rfl)
        · have hs' : sp c = false := by simpa using hs
          simp only [cmp, esc1, hs', Bool.false_eq_true, if_false, Bool.and_false]
          rw [ih l hl' (c == 34) false (fun _ => rfl)]
      | true =>
        cases e with
        | true =>
          simp only [cmp, esc1]
          rw [ih l hl' true false (fun h => by cases h)]
        | false =>
          have ih1 := ih l hl' true false (fun h => by cases h)
          simp only [cmp]
          by_cases h92 : c = 92
          · rw [if_pos h92]
            simp only [esc1]
            rw [if_pos h92, if_pos h92, ih l hl' true true (fun h => by cases h)]
          · rw [if_neg h92]
            by_cases h34 : c = 34
            · rw [if_pos h34]
              simp only [esc1]
              rw [if_neg h92, if_pos h34, if_neg h92, if_pos h34, ih l hl' false false (fun _ => rfl)]
            · rw [if_neg h34]
              simp only [esc1]
              rw [if_neg h92, if_neg h34, if_neg h92, if_neg h34]
              by_cases h60 : c = 60
              · rw [if_pos h60, if_pos h60, ih1]
              · rw [if_neg h60, if_neg h60]
                by_cases h62 : c = 62
                · rw [if_pos h62, if_pos h62, ih1]
                · rw [if_neg h62, if_neg h62]
                  by_cases h38 : c = 38
                  · rw [if_pos h38, if_pos h38, ih1]
                  · rw [if_neg h38, if_neg h38]
                    have tail : ∀ x, x = 168 ∨ x = 169 → l.take 2 = [128, x] → esc1 false 2 true false (cmp true false l) = esc1 true 2 true false l := fun x hx ht => by
                      obtain ⟨r, rfl⟩ := take2_form ht
                      rw [cmp_skip x hx, esc_skip2, esc_skip2]
                      exact ih r (by simp at hl'; omega) true false (fun h => by cases h)
                    by_cases h8 : c = 226 ∧ l.take 2 = [128, 168]
                    · rw [if_pos ⟨h8.1, (cmp_take2 l 168).2 h8.2⟩, if_pos h8, tail 168 (.inl rfl) h8.2]
                    · rw [if_neg (fun h => h8 ⟨h.1, (cmp_take2 l 168).1 h.2⟩), if_neg h8]
                      by_cases h9 : c = 226 ∧ l.take 2 = [128, 169]
                      · rw [if_pos ⟨h9.1, (cmp_take2 l 169).2 h9.2⟩, if_pos h9, tail 169 (.inr rfl) h9.2]
                      · rw [if_neg (fun h => h9 ⟨h.1, (cmp_take2 l 169).1 h.2⟩), if_neg h9, ih1]

theorem esc_cmp' (l : List Int) : esc1 false 0 false false (cmp false false l) = esc1 true 0 false false l := esc_cmp l.length l (Nat.le_refl _) false false (fun _ => rfl)

/-! ### Positions -/

theorem drop_at {R : List Int} {i : Nat} (h : i < R.length) : R.drop i = R.getD i 0 :: R.drop (i + 1) := by
  rw [List.drop_eq_getElem_cons h, List.getD_eq_getElem?_getD, List.getElem?_eq_getElem h]
  rfl

theorem take2_at {R : List Int} {i : Nat} (h : i + 2 < R.length) : (R.drop (i + 1)).take 2 = [R.getD (i + 1) 0, R.getD (i + 2) 0] := by
  rw [drop_at (show i + 1 < R.length by omega), drop_at (show i + 1 + 1 < R.length by omega)]
  rfl

theorem take2_short {R : List Int} {i : Nat} (h : ¬ i + 2 < R.length) (x y : Int) : (R.drop (i + 1)).take 2 ≠ [x, y] := by
  intro e
  have := congrArg List.length e
  simp at this
  omega

/-- The bytes from a to b. -/
def seg (R : List Int) (a b : Nat) : List Int := (R.drop a).take (b - a)

theorem seg_nil (R : List Int) (a : Nat) : seg R a a = [] := by simp [seg]
theorem seg_len {R : List Int} {a b : Nat} (h : a ≤ b) (hb : b ≤ R.length) : (seg R a b).length = b - a := by simp [seg]; omega
theorem seg_succ {R : List Int} {a b : Nat} (h : a ≤ b) (hb : b < R.length) : seg R a (b + 1) = seg R a b ++ [R.getD b 0] := by
  unfold seg
  rw [show b + 1 - a = (b - a) + 1 from by omega, List.take_succ_eq_append_getElem (by simp; omega)]
  congr 1
  rw [List.getElem_drop, List.getD_eq_getElem?_getD, List.getElem?_eq_getElem hb]
  simp [show a + (b - a) = b from by omega]
theorem seg_at {R : List Int} {a b : Nat} {j : Nat} (hj : j < b - a) : (seg R a b).getD j 0 = R.getD (a + j) 0 := by
  unfold seg
  rw [List.getD_eq_getElem?_getD, List.getD_eq_getElem?_getD, List.getElem?_take, if_pos hj, List.getElem?_drop]
theorem seg_end (R : List Int) (a : Nat) : seg R a R.length = R.drop a := by
  unfold seg
  rw [List.take_of_length_le (by simp)]
end Go.Proofs.Qxb6602824a
