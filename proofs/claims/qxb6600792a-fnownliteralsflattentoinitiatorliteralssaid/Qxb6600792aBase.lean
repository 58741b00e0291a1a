/-
  The words of this seat's proofs: what a slice value of ints reads as in a world; a slice of slices of ints; sums.
-/
import Derived.Test.Qxb6600792aRows
import Derived.WalkKit
import Derived.WalkSpells
import Derived.WalkLawsBesides
import Derived.Deep.LoopGhost
import Derived.Deep.OwnRows
import Derived.Deep.Light
namespace Go.Proofs.Qxb6600792a
open Go.RowKit

/-- The slice value v, of n ints, nil or not as N says, reads in w as z 0, z 1, .. -/
def Sl (w : World) (v : Value) (N : Bool) (n : Nat) (z : Nat → Int) : Prop :=
  ∃ (A : Option Addr) (c : Nat), v = .slice A n c ∧ A.isNone = N ∧ n ≤ c ∧ (A = none → c = 0) ∧ ∀ i, i < n → ∃ b o, A = some ⟨b, o, none⟩ ∧ w.cell? ⟨b, o + i, none⟩ = some (.int .i64 (z i))

/-- The slice of slices that begins at ga reads in w, row for row, as N, L, Z say. -/
def Parts (w : World) (ga : Option Addr) (G : Nat) (N : Nat → Bool) (L : Nat → Nat) (Z : Nat → Nat → Int) : Prop :=
  ∀ r, r < G → ∃ gb go v, ga = some ⟨gb, go, none⟩ ∧ w.cell? ⟨gb, go + r, none⟩ = some v ∧ Sl w v (N r) (L r) (Z r)

/-- The sum of the first k lengths. -/
def sumTo (L : Nat → Nat) : Nat → Nat
  | 0 => 0
  | k + 1 => sumTo L k + L k

theorem sumTo_mono (L : Nat → Nat) : ∀ a b, a ≤ b → sumTo L a ≤ sumTo L b := by
  intro a b h
  induction b with
  | zero => obtain rfl : a = 0 := by omega
            exact Nat.le_refl _
  | succ b ih =>
    by_cases e : a = b + 1
    · subst e; exact Nat.le_refl _
    · have := ih (by omega)
      show sumTo L a ≤ sumTo L b + L b
      omega

theorem sumTo_le (L : Nat → Nat) {j k : Nat} (h : j < k) : sumTo L j + L j ≤ sumTo L k := sumTo_mono L (j + 1) k h

theorem Sl.below {w w' : World} {B : Nat} {v : Value} {N : Bool} {n : Nat} {z : Nat → Int} (h : Sl w v N n z) (hb : Below B w w') (hB : w.heap.size ≤ B) : Sl w' v N n z := by
  obtain ⟨A, c, rfl, hN, hn, hc, hz⟩ := h
  refine ⟨A, c, rfl, hN, hn, hc, fun i hi => ?_⟩
  obtain ⟨b, o, rfl, hcell⟩ := hz i hi
  refine ⟨b, o, rfl, ?_⟩
  have hlt := World.block_lt_of_cell? _ _ hcell
  rw [hb.cell (p := ⟨b, o + i, none⟩) (Nat.lt_of_lt_of_le hlt hB)]
  exact hcell

theorem Parts.below {w w' : World} {B : Nat} {ga : Option Addr} {G : Nat} {N : Nat → Bool} {L : Nat → Nat} {Z : Nat → Nat → Int} (h : Parts w ga G N L Z) (hb : Below B w w') (hB : w.heap.size ≤ B) : Parts w' ga G N L Z := by
  intro r hr
  obtain ⟨gb, go, v, e, hcell, hs⟩ := h r hr
  refine ⟨gb, go, v, e, ?_, hs.below hb hB⟩
  have hlt := World.block_lt_of_cell? _ _ hcell
  rw [hb.cell (p := ⟨gb, go + r, none⟩) (Nat.lt_of_lt_of_le hlt hB)]
  exact hcell

theorem addr_ne_of_cell {w : World} {p q : Addr} {u v : Value} (hp : w.cell? p = some u) (hq : w.cell? q = some v) (h : u ≠ v) : p ≠ q := by
  intro e; subst e; rw [hp] at hq; exact h (Option.some.inj hq)

/-- A store over a cell that held a slice turns no int. -/
theorem Sl.setCell {w : World} {v : Value} {N : Bool} {n : Nat} {z : Nat → Int} (h : Sl w v N n z) {p : Addr} {x : Option Addr} {y q : Nat} (hp : w.cell? p = some (.slice x y q)) (u : Value) : Sl (w.setCell p u) v N n z := by
  obtain ⟨A, c, rfl, hN, hn, hc, hz⟩ := h
  refine ⟨A, c, rfl, hN, hn, hc, fun i hi => ?_⟩
  obtain ⟨b, o, rfl, hcell⟩ := hz i hi
  refine ⟨b, o, rfl, ?_⟩
  rw [World.cell?_setCell_other _ _ _ _ (addr_ne_of_cell hp hcell (by simp))]
  exact hcell

theorem Try.own : ownKnob Try.prog.godebug = none := by kernel_rfl
theorem Try.laidOut : laidOutB Try.prog = true := by kernel_rfl
theorem Try.cells22 : Try.prog.cellsOf 22 = 1 := by kernel_rfl
theorem Try.cells29 : Try.prog.cellsOf 29 = 1 := by kernel_rfl
theorem Try.cells3 : Try.prog.cellsOf 3 = 1 := by kernel_rfl
theorem Try.cells4 : Try.prog.cellsOf 4 = 1 := by kernel_rfl
theorem Try.info3 : (Try.prog.info? 3).map (fun i => (i.zero, i.size, i.bytes)) = some (some (.int .i64 0), 1, 8) := by kernel_rfl
theorem Try.info4 : (Try.prog.info? 4).map (fun i => (i.zero, i.size, i.bytes)) = some (some (.bool false), 1, 1) := by kernel_rfl
theorem Try.info29 : (Try.prog.info? 29).map (fun i => (i.zero, i.size, i.bytes)) = some (some (.slice none 0 0), 1, 24) := by kernel_rfl
theorem Try.info42 : (Try.prog.info? 42).map (fun i => (i.zero, i.size, i.bytes)) = some (some (.agg #[.bool false, .slice none 0 0, .slice none 0 0]), 3, 56) := by kernel_rfl

/-- 'x == nil', 'x != nil' at the slice types of the program. -/
theorem Try.nil22 : ∀ (w : World) (a : Option Addr) (n c n' c' : Nat), (binOp .eql 22 (.slice a n c) (.slice none n' c')).run Try.prog w = .ok (.bool a.isNone) w := fun w a n c n' c' => Lib.run_eql_slice_nil w _ _ a n c n' c' Try.underlying22
theorem Try.nil29 : ∀ (w : World) (a : Option Addr) (n c n' c' : Nat), (binOp .eql 29 (.slice a n c) (.slice none n' c')).run Try.prog w = .ok (.bool a.isNone) w := fun w a n c n' c' => Lib.run_eql_slice_nil w _ _ a n c n' c' Try.underlying29
theorem Try.nil40 : ∀ (w : World) (a : Option Addr) (n c n' c' : Nat), (binOp .eql 40 (.slice a n c) (.slice none n' c')).run Try.prog w = .ok (.bool a.isNone) w := fun w a n c n' c' => Lib.run_eql_slice_nil w _ _ a n c n' c' Try.underlying40

end Go.Proofs.Qxb6600792a
