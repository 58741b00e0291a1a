import Derived.Test.Qxb6600792aOwns
namespace Go.Proofs.Qxb6600792a
open Go.RowKit

theorem owns_mono {w : World} {base base' n : Nat} {e : TypeId} {s : Nat} {v : Value} {xs : List Value} (h : w.ownsRow base e s v n xs) (hb : base' ≤ base) : w.ownsRow base' e s v n xs := by
  refine ⟨h.1, ?_⟩
  rcases h.2 with h' | ⟨g, cap, cur, h1, h2, h3⟩
  · exact .inl h'
  · exact .inr ⟨g, cap, cur, h1, by omega, h3⟩

/-- append onto a slice of the call's own: where it lies behind is told: in the same block, or in a new one. -/
theorem wpList_append_own2 {P : Program} (w : World) {ops : Array Oper} {rest : List Oper} {o : Oper} {a : Act} {Q : Exit → Act → World → Prop}
    (hg : o.guard = none) (s x : Operand) (t : TypeId) (hop : o.op = Op.call { callee := Callee.builtin Builtin.append, args := #[s, x], argTypes := #[t, t] })
    (base : Nat) (e : TypeId) (i : TypeInfo) (z : Value) (size bytes : Nat) (h1 : P.underlying t = some (.slice e)) (h2 : P.info? e = some i) (h3 : i.zero = some z) (h4 : i.size = size) (h5 : i.bytes = bytes) (h6 : z.cells.size = size) (h7 : 0 < size)
    (v : Value) (n : Nat) (xs : List Value) (hs : a.eval s = v) (hown : w.ownsRow base e size v n xs)
    (ad : Addr) (m c : Nat) (news : List Value) (hx : a.eval x = .slice (some ad) m c) (hn : news.length = m * size) (hc : ∀ j u, news[j]? = some u → w.cell? (ad.add j) = some u) (h1c : ∀ u ∈ news, u.oneCell' = true) (hm : 0 < m)
    (b1 : n + m ≤ maxLen) (b2 : (n + m) * bytes ≤ 140737488355328) (b3 : base ≤ w.heap.size)
    (hK : ∀ v' w', w'.ownsRow base e size v' (n + m) (xs ++ news) → w.grownBy w' v.ownBlock → (v'.ownBlock = v.ownBlock ∨ ∃ k, v'.ownBlock = some k ∧ w.heap.size ≤ k) → wpList P ops Q rest (a.put o.dst v') w') :
    wpList P ops Q (o :: rest) a w := by
  rcases hown.2 with ⟨rfl, rfl⟩ | ⟨g, cap, cur, rfl, hb, hgc, hnc, hcm, hcs, htake⟩
  · refine wpList_append_grows w hg s x t hop e i z size bytes h1 h2 h3 h4 h5 h6 h7 none 0 0 xs hs (fun _ => ⟨rfl, rfl⟩) hown.1 (fun b hb => by cases hb) ad m c news hx hn hc h1c (by omega) b1 b2 ?_
    intro v' w' ho hgr
    obtain ⟨g', cap', e', hg'⟩ := owns_shape ho (by omega)
    exact hK v' w' (owns_mono ho b3) hgr (.inr ⟨g', by rw [e']; rfl, hg'⟩)
  · by_cases hroom : n + m ≤ cap
    · refine wpList_append_fits w hg s x t hop base e i size h1 h2 h4 g n cap xs hs hown ad m c news hx hn hc h1c hroom ?_
      intro w' ho hgr
      exact hK _ w' ho hgr (.inl rfl)
    · refine wpList_append_grows w hg s x t hop e i z size bytes h1 h2 h3 h4 h5 h6 h7 (some ⟨g, 0, none⟩) n cap xs hs (fun h => by cases h) hown.1 (fun b hb j u hu => ?_) ad m c news hx hn hc h1c (by omega) b1 b2 ?_
      · obtain rfl := Option.some.inj hb
        exact hown.cells rfl j u hu
      · intro v' w' ho hgr
        obtain ⟨g', cap', e', hg'⟩ := owns_shape ho (by omega)
        exact hK v' w' (owns_mono ho b3) ⟨hgr.os, hgr.tape, hgr.output, hgr.size, fun k hk _ => hgr.block k hk (by simp)⟩ (.inr ⟨g', by rw [e']; rfl, hg'⟩)
end Go.Proofs.Qxb6600792a
