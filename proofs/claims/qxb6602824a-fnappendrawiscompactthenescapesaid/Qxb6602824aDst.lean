/-
  A byte slice that is appended to again and again: either it is still the full one that came in, or it lies in memory from block B on.
-/
import Derived.Test.Qxb6602824aBase
import Derived.Deep.AppendSrc
import Derived.Deep.RegionLaw
namespace Go.Proofs.Qxb6602824a
open Go.RowKit

def ucells (L : List Int) : List Value := L.map (Value.int .u8)

def Dst (B : Nat) (w : World) (A : Option Addr) (c : Nat) (L : List Int) : Prop :=
  (c = L.length ∧ (A = none → c = 0) ∧ ∀ i, i < L.length → ∃ b o, A = some ⟨b, o, none⟩ ∧ b < B ∧ w.cell? ⟨b, o + i, none⟩ = some (.int .u8 (L.getD i 0))) ∨
  w.ownsRow B 5 1 (.slice A L.length c) L.length (ucells L)

theorem ucells_at {L : List Int} {i : Nat} (h : i < L.length) : (ucells L)[i]? = some (.int .u8 (L.getD i 0)) := by
  simp [ucells, List.getD_eq_getElem?_getD, h]

theorem ucells_len (L : List Int) : (ucells L).length = L.length := by simp [ucells]
theorem ucells_one (L : List Int) : ∀ u ∈ ucells L, u.oneCell' = true := by
  intro u hu
  obtain ⟨_, _, rfl⟩ := List.mem_map.1 hu
  rfl
theorem ucells_append (L M : List Int) : ucells (L ++ M) = ucells L ++ ucells M := by simp [ucells]

theorem Dst.keep {B : Nat} {w w' : World} {A : Option Addr} {c : Nat} {L : List Int} (h : Dst B w A c L) (hb : Below w.heap.size w w') (_hB : B ≤ w.heap.size) : Dst B w' A c L := by
  rcases h with ⟨h1, h2, h3⟩ | h
  · refine .inl ⟨h1, h2, fun i hi => ?_⟩
    obtain ⟨b, o, e, hlt, hc⟩ := h3 i hi
    exact ⟨b, o, e, hlt, by rw [hb.cell (p := ⟨b, o + i, none⟩) (World.block_lt_of_cell? _ _ hc)]; exact hc⟩
  · refine .inr ⟨h.1, ?_⟩
    rcases h.2 with hn | ⟨g, cap, cur, e, hg, hgg, rest⟩
    · exact .inl hn
    · exact .inr ⟨g, cap, cur, e, hg, by rw [hb.block g (Array.getElem?_eq_some_iff.1 hgg).1]; exact hgg, rest⟩

theorem Dst.sl {B : Nat} {w : World} {A : Option Addr} {c : Nat} {L : List Int} (h : Dst B w A c L) : Sl w (.slice A L.length c) A.isNone L.length (fun i => L.getD i 0) := by
  rcases h with ⟨h1, h2, h3⟩ | h
  · refine ⟨A, c, rfl, rfl, by omega, h2, fun i hi => ?_⟩
    obtain ⟨b, o, e, _, hc⟩ := h3 i hi
    exact ⟨b, o, e, hc⟩
  · rcases h.2 with ⟨e, h0⟩ | ⟨g, cap, cur, e, _⟩
    · simp only [Value.slice.injEq] at e
      obtain ⟨rfl, _, rfl⟩ := e
      exact ⟨none, 0, rfl, rfl, by omega, fun _ => rfl, fun i hi => by omega⟩
    · simp only [Value.slice.injEq, true_and] at e
      obtain ⟨rfl, rfl⟩ := e
      exact sl_of_owns h (fun i hi => ucells_at hi)

theorem Dst.le {B : Nat} {w : World} {A : Option Addr} {c : Nat} {L : List Int} (h : Dst B w A c L) : L.length ≤ c ∧ (A = none → L.length = 0 ∧ c = 0) := by
  obtain ⟨_, h1, h2, _⟩ := sl_lit h.sl
  exact ⟨h1, fun e => by have := h2 e; omega⟩

theorem Dst.cells {B : Nat} {w : World} {A : Option Addr} {c : Nat} {L : List Int} (h : Dst B w A c L) : ∀ b, A = some b → ∀ j u, (ucells L)[j]? = some u → w.cell? (b.add j) = some u := by
  intro b hb j u hu
  have hj : j < L.length := by
    have := (List.getElem?_eq_some_iff.1 hu).1
    rwa [ucells_len] at this
  obtain ⟨_, _, _, hz⟩ := sl_lit h.sl
  obtain ⟨b', o, e, hc⟩ := hz j hj
  rw [hb] at e
  obtain rfl := Option.some.inj e
  rw [Go.WideShapes.add_plain, hc, ← hu, ucells_at hj]

/-- NOTHING is appended. -/
theorem run_append_none (w : World) (ty : TypeId) (A : Option Addr) (n c : Nat) (hn : n ≤ c) (ao : Option Addr) (c' : Nat) :
    (Builtin.append_ #[22, 22] ty #[.slice A n c, .slice ao 0 c']).run Try.prog w = .ok (.slice A n c) w := by
  obtain ⟨i, hi, hz, hs, hb⟩ := info_parts Try.info5
  have hf : (Builtin.firstCells i.size 0 (.slice ao 0 c')).run Try.prog w = .ok #[] w := by
    cases ao with
    | none => rfl
    | some a => exact run_firstCells_some (P := Try.prog) w i.size 0 a 0 c' [] (by simp) (fun j u h => by simp at h)
  cases A with
  | none => simp [Builtin.append_, run_underlying Try.underlying22, sizeOf, typeInfo, hi, Builtin.lenOf, hn, hf]
  | some a => simp [Builtin.append_, run_underlying Try.underlying22, sizeOf, typeInfo, hi, Builtin.lenOf, hn, hf, storeCells]

/-- THE LAW of one append. -/
theorem run_append_dst (w : World) (ty : TypeId) {B : Nat} {A : Option Addr} {c : Nat} {L : List Int} (hD : Dst B w A c L) (hB : B ≤ w.heap.size) (ao : Option Addr) (c' : Nat) (xs : List Int)
    (hnone : ao = none → xs.length = 0 ∧ c' = 0) (hc : ∀ ad, ao = some ad → ∀ j u, (ucells xs)[j]? = some u → w.cell? (ad.add j) = some u) (hb : L.length + xs.length ≤ 1073741824) :
    ∃ A' c'' w', (Builtin.append_ #[22, 22] ty #[.slice A L.length c, .slice ao xs.length c']).run Try.prog w = .ok (.slice A' (L.length + xs.length) c'') w' ∧ Dst B w' A' c'' (L ++ xs) ∧ Below B w w' := by
  obtain ⟨i, hi, hz, hs, hby⟩ := info_parts Try.info5
  have hle := hD.le
  by_cases hm : xs.length = 0
  · have hxs : xs = [] := List.eq_nil_of_length_eq_zero hm
    subst hxs
    refine ⟨A, c, w, ?_, by rw [List.append_nil]; exact hD, Below.refl _ _⟩
    exact run_append_none w ty A L.length c hle.1 ao c'
  · cases ao with
    | none => exact absurd (hnone rfl).1 hm
    | some ad =>
      have hnl : (ucells xs).length = xs.length * 1 := by rw [ucells_len, Nat.mul_one]
      have hfin : ∀ v' w', w'.ownsRow B 5 1 v' (L.length + xs.length) (ucells L ++ ucells xs) → ∃ A' c'', v' = .slice A' (L.length + xs.length) c'' ∧ Dst B w' A' c'' (L ++ xs) := fun v' w' ho => by
        obtain ⟨g, cap, rfl, _⟩ := owns_shape ho (by omega)
        exact ⟨_, cap, rfl, .inr (by rw [List.length_append, ucells_append]; exact ho)⟩
      have grow : c < L.length + xs.length → ∃ A' c'' w', (Builtin.append_ #[22, 22] ty #[.slice A L.length c, .slice (some ad) xs.length c']).run Try.prog w = .ok (.slice A' (L.length + xs.length) c'') w' ∧ Dst B w' A' c'' (L ++ xs) ∧ Below B w w' := fun hg => by
        cases A with
        | none =>
          obtain ⟨h0, h0'⟩ := hle.2 rfl
          have hL : L = [] := List.eq_nil_of_length_eq_zero h0
          subst hL
          subst h0'
          obtain ⟨v', w', hrun, r1, r2, _⟩ := run_append_own (P := Try.prog) w w.heap.size 22 ty 5 i (.int .u8 0) 1 1 Try.underlying22 hi hz hs hby rfl (by decide) (.slice none 0 0) 0 [] (World.ownsRow_nil w _ 5 1) ad xs.length c' (ucells xs) hnl (hc ad rfl) (ucells_one xs) (by unfold maxLen; omega) (by omega) (Nat.le_refl _)
          have r1' : w'.ownsRow B 5 1 v' (([] : List Int).length + xs.length) (ucells [] ++ ucells xs) := by
            refine ⟨by simp [ucells], ?_⟩
            rcases r1.2 with h | ⟨g, cap, cur, e1, e2, e3⟩
            · exact .inl (by simpa using h)
            · exact .inr ⟨g, cap, cur, by simpa using e1, by omega, by simpa [ucells] using e3⟩
          obtain ⟨A', c'', rfl, hd⟩ := hfin v' w' r1'
          exact ⟨A', c'', w', hrun, hd, (Below.refl _ _).grown r2 hB (fun k e => by simp [Value.ownBlock] at e)⟩
        | some a =>
          obtain ⟨v', w', hrun, r1, r2⟩ := run_append_arg_grows (P := Try.prog) w 22 ty 5 i (.int .u8 0) 1 1 Try.underlying22 hi hz hs hby rfl (by decide) a L.length c (ucells L) (by rw [ucells_len, Nat.mul_one]) (hD.cells a rfl) ad xs.length c' (ucells xs) hnl (hc ad rfl) hg (by unfold maxLen; omega) (by omega)
          have r1' : w'.ownsRow B 5 1 v' (L.length + xs.length) (ucells L ++ ucells xs) := by
            refine ⟨r1.1, ?_⟩
            rcases r1.2 with h | ⟨g, cap, cur, e1, e2, e3⟩
            · exact .inl h
            · exact .inr ⟨g, cap, cur, e1, by omega, e3⟩
          obtain ⟨A', c'', rfl, hd⟩ := hfin v' w' r1'
          exact ⟨A', c'', w', hrun, hd, (Below.refl _ _).grown r2 hB (fun k e => by cases e)⟩
      rcases hD with ⟨h1, _, _⟩ | ho
      · exact grow (by omega)
      · by_cases hroom : L.length + xs.length ≤ c
        · obtain ⟨v', w', hrun, r1, r2, _⟩ := run_append_own (P := Try.prog) w B 22 ty 5 i (.int .u8 0) 1 1 Try.underlying22 hi hz hs hby rfl (by decide) (.slice A L.length c) L.length (ucells L) ho ad xs.length c' (ucells xs) hnl (hc ad rfl) (ucells_one xs) (by unfold maxLen; omega) (by omega) hB
          obtain ⟨A', c'', rfl, hd⟩ := hfin v' w' r1
          exact ⟨A', c'', w', hrun, hd, (Below.refl _ _).grown r2 hB (fun k e => (ho.lt k e).1)⟩
        · exact grow (by omega)

/-- .. in the walk. -/
theorem wpList_append_dst (w : World) {ops : Array Oper} {rest : List Oper} {o : Oper} {a : Act} {Q : Exit → Act → World → Prop}
    (hg : o.guard = none) (s x : Operand) (hop : o.op = Op.call { callee := Callee.builtin Builtin.append, args := #[s, x], argTypes := #[22, 22] })
    {B : Nat} {A : Option Addr} {c : Nat} {L : List Int} (hs : a.eval s = .slice A L.length c) (hD : Dst B w A c L) (hB : B ≤ w.heap.size) (ao : Option Addr) (c' m : Nat) (xs : List Int) (hx : a.eval x = .slice ao m c') (hm : m = xs.length)
    (hnone : ao = none → xs.length = 0 ∧ c' = 0) (hc : ∀ ad, ao = some ad → ∀ j u, (ucells xs)[j]? = some u → w.cell? (ad.add j) = some u) (hb : L.length + xs.length ≤ 1073741824)
    (hK : ∀ A' c'' w', Dst B w' A' c'' (L ++ xs) → Below B w w' → wpList Try.prog ops Q rest (a.put o.dst (.slice A' (L ++ xs).length c'')) w') :
    wpList Try.prog ops Q (o :: rest) a w := by
  refine wpList_plain hg fun K hK' => ?_
  subst hm
  obtain ⟨A', c'', w', hrun, h1, h2⟩ := run_append_dst w o.type hD hB ao c' xs hnone hc hb
  unfold Oper.wp
  simp [execOp, hop, resolve, invoke, builtin, hs, hx, hrun, Result.andThen]
  have := hK A' c'' w' h1 h2
  rw [List.length_append] at this
  exact hK' _ _ this

/-- .. inside a region that draws. -/
theorem step_append_dst {ops : Array Oper} {o : Oper} {a : Act} {w : World} {K : Act → World → Prop} {Q : Exit → Act → World → Prop} {E : Prop}
    (hg : o.guard = none) (s x : Operand) (hop : o.op = Op.call { callee := Callee.builtin Builtin.append, args := #[s, x], argTypes := #[22, 22] })
    {B : Nat} {A : Option Addr} {c : Nat} {L : List Int} (hs : a.eval s = .slice A L.length c) (hD : Dst B w A c L) (hB : B ≤ w.heap.size) (ao : Option Addr) (c' m : Nat) (xs : List Int) (hx : a.eval x = .slice ao m c') (hm : m = xs.length)
    (hnone : ao = none → xs.length = 0 ∧ c' = 0) (hc : ∀ ad, ao = some ad → ∀ j u, (ucells xs)[j]? = some u → w.cell? (ad.add j) = some u) (hb : L.length + xs.length ≤ 1073741824)
    (hK : ∀ A' c'' w', Dst B w' A' c'' (L ++ xs) → Below B w w' → K (a.put o.dst (.slice A' (L ++ xs).length c'')) w') :
    if Region.wanted o (yielded ops a.tmps) = true then Oper.wp Try.prog o a w K Q else E := by
  have hw : Region.wanted o (yielded ops a.tmps) = true := by simp [Region.wanted, hg]
  rw [if_pos hw]
  subst hm
  obtain ⟨A', c'', w', hrun, h1, h2⟩ := run_append_dst w o.type hD hB ao c' xs hnone hc hb
  unfold Oper.wp
  simp [execOp, hop, resolve, invoke, builtin, hs, hx, hrun, Result.andThen]
  have := hK A' c'' w' h1 h2
  rw [List.length_append] at this
  exact this
end Go.Proofs.Qxb6602824a
