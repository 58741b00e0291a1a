import Derived.Test.Qxb6600792aBase
import Derived.ProofKit
import Derived.OpenShut
import Derived.ShutString
import Derived.ChangeOld
import Derived.Below
import Derived.Carry
import Derived.Deep.Matrix
namespace Go.Proofs.Qxb6600792a
open Go.ChangeShapes Go.WideShapes Go.ChangeAt Go.RowKit Go.Deep

theorem row_at {w : World} {a : Addr} {n : Nat} {f : Nat → Value} (h : ∀ i, i < n → w.cell? (a.add i) = some (f i)) {i : Nat} (hi : i < n) : ∃ b o, a = ⟨b, o, none⟩ ∧ w.cell? ⟨b, o + i, none⟩ = some (f i) := by
  obtain ⟨b, off, spot⟩ := a
  have hspot : spot = none := by simpa [Addr.add] using World.cell?_spot (h 0 (by omega))
  subst hspot
  exact ⟨b, off, rfl, by rw [← Go.WideShapes.add_plain]; exact h i hi⟩

section
variable {H : Type} {enc : TypeId × Value → H} {w : World} {held : Bool}

theorem open_sl {fuel : Nat} {a : Option Addr} {n c : Nat} {x : DataW H × List MemPlace} (hf : DataW.trod enc Try.prog w 0 (fun _ => true) held fuel 29 [.slice a n c] = some x) :
    ∃ N z, Sl w (.slice a n c) N n z := by
  rcases open_ints Try.underlying29 Try.underlying3 Try.cells3 hf with ⟨hcs, _⟩ | ⟨ad, l, cp, zs, hcs, _, hl, hm, hz, _, hcell, hwz⟩
  · simp only [List.cons.injEq, Value.slice.injEq, and_true] at hcs
    obtain ⟨rfl, rfl, rfl⟩ := hcs
    exact ⟨true, fun _ => 0, none, 0, rfl, rfl, Nat.le_refl _, fun _ => rfl, fun i hi => absurd hi (Nat.not_lt_zero _)⟩
  · simp only [List.cons.injEq, Value.slice.injEq, and_true] at hcs
    obtain ⟨rfl, rfl, rfl⟩ := hcs
    simp only [if_true] at hz
    refine ⟨false, fun i => zs.getD i 0, some ad, c, rfl, rfl, hl, fun h => by (cases h), fun i hi => ?_⟩
    obtain ⟨b, o, rfl, hc⟩ := row_at (f := fun i => .int .i64 (zs.getD i 0)) hcell (show i < zs.length by omega)
    exact ⟨b, o, rfl, hc⟩

theorem open_parts {fuel : Nat} {a : Option Addr} {n c : Nat} {x : DataW H × List MemPlace} (hf : DataW.trod enc Try.prog w 0 (fun _ => true) held fuel 22 [.slice a n c] = some x) :
    (a = none → n = 0) ∧ ∃ N L Z, Parts w a n N L Z := by
  rcases open_int_rows Try.underlying22 Try.underlying29 Try.underlying3 Try.cells29 Try.cells3 hf with ⟨hcs, _⟩ | ⟨ad, l, cp, A, L, C, Z, hcs, _, hl, hm, _, hr⟩
  · simp only [List.cons.injEq, Value.slice.injEq, and_true] at hcs
    obtain ⟨rfl, rfl, rfl⟩ := hcs
    exact ⟨fun _ => rfl, fun _ => true, fun _ => 0, fun _ _ => 0, fun r hr => absurd hr (Nat.not_lt_zero _)⟩
  · simp only [List.cons.injEq, Value.slice.injEq, and_true] at hcs
    obtain ⟨rfl, rfl, rfl⟩ := hcs
    refine ⟨fun h => by (cases h), fun r => (A r).isNone, L, fun r i => (Z r).getD i 0, fun r hlt => ?_⟩
    obtain ⟨gb, go, rfl, hc⟩ := row_at (f := fun r => .slice (A r) (L r) (C r)) (n := c) (fun r hr' => (hr r hr').1) (show r < c by omega)
    obtain ⟨_, h1, h2, h3, h4, h5, h6⟩ := hr r (by omega)
    refine ⟨gb, go, _, rfl, hc, A r, C r, rfl, rfl, h1, h5, fun i hi => ?_⟩
    cases e : A r with
    | none => have := h5 e; omega
    | some a' =>
      obtain ⟨b, o, rfl, hc'⟩ := row_at (f := fun i => .int .i64 ((Z r).getD i 0)) (n := C r) (h6 a' e).2 (show i < C r by omega)
      exact ⟨b, o, rfl, hc'⟩
end
end Go.Proofs.Qxb6600792a
