import Derived.Test.Qxb6600792aBase
namespace Go.Proofs.Qxb6600792a
open Go.RowKit

theorem owns_shape {w : World} {base n : Nat} {e : TypeId} {s : Nat} {v : Value} {xs : List Value} (h : w.ownsRow base e s v n xs) (hn : 0 < n) : ∃ g cap, v = .slice (some ⟨g, 0, none⟩) n cap ∧ base ≤ g := by
  rcases h.2 with ⟨_, h0⟩ | ⟨g, cap, cur, rfl, hb, _⟩
  · omega
  · exact ⟨g, cap, rfl, hb⟩

theorem sl_of_owns {w : World} {base n g cap : Nat} {e : TypeId} {xs : List Value} {z : Nat → Int} (h : w.ownsRow base e 1 (.slice (some ⟨g, 0, none⟩) n cap) n xs) (hz : ∀ i, i < n → xs[i]? = some (.int .i64 (z i))) :
    Sl w (.slice (some ⟨g, 0, none⟩) n cap) false n z := by
  refine ⟨_, cap, rfl, rfl, ?_, fun e => by (cases e), fun i hi => ⟨g, 0, rfl, ?_⟩⟩
  · rcases h.2 with ⟨h', _⟩ | ⟨g', cap', cur, h', _, _, hnc, _⟩
    · simp at h'
    · simp only [Value.slice.injEq] at h'
      omega
  · rw [Nat.zero_add, h.cellAt i (by omega)]
    exact hz i hi

/-- The cells of a slice that reads as z, as a list. -/
theorem Sl.olds {w : World} {A : Option Addr} {N : Bool} {n c : Nat} {z : Nat → Int} (h : Sl w (.slice A n c) N n z) :
    ∀ b, A = some b → ∀ j u, ((List.range n).map fun i => Value.int .i64 (z i))[j]? = some u → w.cell? (b.add j) = some u := by
  intro b hb j u hu
  obtain ⟨A0, c0, e0, _, _, _, hz⟩ := h
  simp only [Value.slice.injEq, true_and] at e0
  obtain ⟨rfl, rfl⟩ := e0
  have hj : j < n := by
    have := (List.getElem?_eq_some_iff.1 hu).1
    simpa using this
  obtain ⟨b', o, rfl, hc⟩ := hz j hj
  obtain rfl := Option.some.inj hb
  rw [Go.WideShapes.add_plain, hc]
  simpa [hj] using hu

end Go.Proofs.Qxb6600792a
