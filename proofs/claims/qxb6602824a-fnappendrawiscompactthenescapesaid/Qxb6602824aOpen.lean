import Derived.Test.Qxb6602824aBase
import Derived.ProofKit
import Derived.OpenShut
import Derived.ShutString
import Derived.ChangeOld
import Derived.Below
import Derived.Carry
namespace Go.Proofs.Qxb6602824a
open Go.ChangeShapes Go.WideShapes Go.ChangeAt Go.RowKit

theorem row_at {w : World} {a : Addr} {n : Nat} {f : Nat → Value} (h : ∀ i, i < n → w.cell? (a.add i) = some (f i)) {i : Nat} (hi : i < n) : ∃ b o, a = ⟨b, o, none⟩ ∧ w.cell? ⟨b, o + i, none⟩ = some (f i) := by
  obtain ⟨b, off, spot⟩ := a
  have hspot : spot = none := by simpa [Addr.add] using World.cell?_spot (h 0 (by omega))
  subst hspot
  exact ⟨b, off, rfl, by rw [← Go.WideShapes.add_plain]; exact h i hi⟩

section
variable {H : Type} {enc : TypeId × Value → H} {w : World} {held : Bool}

theorem open_sl {fuel : Nat} {a : Option Addr} {n c : Nat} {x : DataW H × List MemPlace} (hf : DataW.trod enc Try.prog w 0 (fun _ => true) held fuel 22 [.slice a n c] = some x) :
    ∃ N z, Sl w (.slice a n c) N n z ∧ Byt n z := by
  rcases open_ints Try.underlying22 Try.underlying5 Try.cells5 hf with ⟨hcs, _⟩ | ⟨ad, l, cp, zs, hcs, _, hl, hm, hz, _, hcell, hwz⟩
  · simp only [List.cons.injEq, Value.slice.injEq, and_true] at hcs
    obtain ⟨rfl, rfl, rfl⟩ := hcs
    exact ⟨true, fun _ => 0, ⟨none, 0, rfl, rfl, Nat.le_refl _, fun _ => rfl, fun i hi => absurd hi (Nat.not_lt_zero _)⟩, fun i hi => absurd hi (Nat.not_lt_zero _)⟩
  · simp only [List.cons.injEq, Value.slice.injEq, and_true] at hcs
    obtain ⟨rfl, rfl, rfl⟩ := hcs
    simp only [if_true] at hz
    refine ⟨false, fun i => zs.getD i 0, ⟨some ad, c, rfl, rfl, hl, fun h => by (cases h), fun i hi => ?_⟩, fun i hi => ?_⟩
    · obtain ⟨b, o, rfl, hc⟩ := row_at (f := fun i => .int .u8 (zs.getD i 0)) hcell (show i < zs.length by omega)
      exact ⟨b, o, rfl, hc⟩
    · have hmem : zs.getD i 0 ∈ zs := by
        rw [List.getD_eq_getElem?_getD, List.getElem?_eq_getElem (show i < zs.length by omega)]
        exact List.getElem_mem _
      exact bounds_u8 (hwz _ hmem)
end
end Go.Proofs.Qxb6602824a
