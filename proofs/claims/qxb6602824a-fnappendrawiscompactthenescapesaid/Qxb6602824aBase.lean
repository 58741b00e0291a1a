/-
  The words of this seat's proofs: what a slice value of bytes reads as in a world.
-/
import Derived.Test.Qxb6602824aRows
import Derived.WalkKit
import Derived.WalkSpells
import Derived.WalkLawsBesides
import Derived.Deep.LoopGhost
import Derived.Deep.OwnRows
import Derived.Deep.Light
namespace Go.Proofs.Qxb6602824a
open Go.RowKit

/-- The slice value v, of n bytes, nil or not as N says, reads in w as z 0, z 1, .. -/
def Sl (w : World) (v : Value) (N : Bool) (n : Nat) (z : Nat → Int) : Prop :=
  ∃ (A : Option Addr) (c : Nat), v = .slice A n c ∧ A.isNone = N ∧ n ≤ c ∧ (A = none → c = 0) ∧ ∀ i, i < n → ∃ b o, A = some ⟨b, o, none⟩ ∧ w.cell? ⟨b, o + i, none⟩ = some (.int .u8 (z i))

/-- Each of them is a byte. -/
def Byt (n : Nat) (z : Nat → Int) : Prop := ∀ i, i < n → 0 ≤ z i ∧ z i ≤ 255

theorem Sl.below {w w' : World} {B : Nat} {v : Value} {N : Bool} {n : Nat} {z : Nat → Int} (h : Sl w v N n z) (hb : Below B w w') (hB : w.heap.size ≤ B) : Sl w' v N n z := by
  obtain ⟨A, c, rfl, hN, hn, hc, hz⟩ := h
  refine ⟨A, c, rfl, hN, hn, hc, fun i hi => ?_⟩
  obtain ⟨b, o, rfl, hcell⟩ := hz i hi
  refine ⟨b, o, rfl, ?_⟩
  have hlt := World.block_lt_of_cell? _ _ hcell
  rw [hb.cell (p := ⟨b, o + i, none⟩) (Nat.lt_of_lt_of_le hlt hB)]
  exact hcell

theorem sl_lit {w : World} {A : Option Addr} {N : Bool} {n c : Nat} {z : Nat → Int} (h : Sl w (.slice A n c) N n z) : A.isNone = N ∧ n ≤ c ∧ (A = none → c = 0) ∧ ∀ i, i < n → ∃ b o, A = some ⟨b, o, none⟩ ∧ w.cell? ⟨b, o + i, none⟩ = some (.int .u8 (z i)) := by
  obtain ⟨A0, c0, e0, r⟩ := h
  simp only [Value.slice.injEq, true_and] at e0
  obtain ⟨rfl, rfl⟩ := e0
  exact r

theorem owns_shape {w : World} {base n : Nat} {e : TypeId} {s : Nat} {v : Value} {xs : List Value} (h : w.ownsRow base e s v n xs) (hn : 0 < n) : ∃ g cap, v = .slice (some ⟨g, 0, none⟩) n cap ∧ base ≤ g := by
  rcases h.2 with ⟨_, h0⟩ | ⟨g, cap, cur, rfl, hb, _⟩
  · omega
  · exact ⟨g, cap, rfl, hb⟩

theorem sl_of_owns {w : World} {base n g cap : Nat} {e : TypeId} {xs : List Value} {z : Nat → Int} (h : w.ownsRow base e 1 (.slice (some ⟨g, 0, none⟩) n cap) n xs) (hz : ∀ i, i < n → xs[i]? = some (.int .u8 (z i))) :
    Sl w (.slice (some ⟨g, 0, none⟩) n cap) false n z := by
  refine ⟨_, cap, rfl, rfl, ?_, fun e => by (cases e), fun i hi => ⟨g, 0, rfl, ?_⟩⟩
  · rcases h.2 with ⟨h', _⟩ | ⟨g', cap', cur, h', _, _, hnc, _⟩
    · simp at h'
    · simp only [Value.slice.injEq] at h'
      omega
  · rw [Nat.zero_add, h.cellAt i (by omega)]
    exact hz i hi

/-- The cells of a slice that reads as z, as a list. -/
def bcells (n : Nat) (z : Nat → Int) : List Value := (List.range n).map fun i => Value.int .u8 (z i)

theorem bcells_len (n : Nat) (z : Nat → Int) : (bcells n z).length = n := by simp [bcells]
theorem bcells_one (n : Nat) (z : Nat → Int) : ∀ u ∈ bcells n z, u.oneCell' = true := by
  intro u hu
  obtain ⟨_, _, rfl⟩ := List.mem_map.1 hu
  rfl
theorem bcells_at {n : Nat} {z : Nat → Int} {i : Nat} (h : i < n) : (bcells n z)[i]? = some (.int .u8 (z i)) := by simp [bcells, h]

theorem Sl.olds {w : World} {A : Option Addr} {N : Bool} {n c : Nat} {z : Nat → Int} (h : Sl w (.slice A n c) N n z) :
    ∀ b, A = some b → ∀ j u, (bcells n z)[j]? = some u → w.cell? (b.add j) = some u := by
  intro b hb j u hu
  obtain ⟨_, _, _, hz⟩ := sl_lit h
  have hj : j < n := by
    have := (List.getElem?_eq_some_iff.1 hu).1
    rwa [bcells_len] at this
  obtain ⟨b', o, rfl, hc⟩ := hz j hj
  obtain rfl := Option.some.inj hb
  rw [Go.WideShapes.add_plain, hc, ← hu, bcells_at hj]

theorem Try.own : ownKnob Try.prog.godebug = none := by kernel_rfl
theorem Try.laidOut : laidOutB Try.prog = true := by kernel_rfl
theorem Try.cells22 : Try.prog.cellsOf 22 = 1 := by kernel_rfl
theorem Try.cells5 : Try.prog.cellsOf 5 = 1 := by kernel_rfl
theorem Try.cells4 : Try.prog.cellsOf 4 = 1 := by kernel_rfl
theorem Try.info5 : (Try.prog.info? 5).map (fun i => (i.zero, i.size, i.bytes)) = some (some (.int .u8 0), 1, 1) := by kernel_rfl
theorem Try.nil22 : ∀ (w : World) (a : Option Addr) (n c n' c' : Nat), (binOp .eql 22 (.slice a n c) (.slice none n' c')).run Try.prog w = .ok (.bool a.isNone) w := fun w a n c n' c' => Lib.run_eql_slice_nil w _ _ a n c n' c' Try.underlying22

/-! ### mCloneBytes -/

structure CloneI (w w' : World) (n k : Nat) (z : Nat → Int) : Prop where
  below : Below w.heap.size w w'
  size : w'.heap.size = w.heap.size + 1
  row : w'.rowIs w.heap.size 5 n (fun i => if i < k then .int .u8 (z i) else .int .u8 0)

theorem cloneI_start (w : World) (n : Nat) (z : Nat → Int) : CloneI w (w.alloc (.cells (madeCells #[.int .u8 0] n) 5)) n 0 z :=
  ⟨(Below.refl _ _).alloc (Nat.le_refl _) _, by simp, (World.rowIs_made w _ n 5).congr (fun j _ => by simp)⟩

theorem cloneI_step {w w' : World} {n k : Nat} {z : Nat → Int} (h : CloneI w w' n k z) :
    CloneI w (w'.setCell ⟨w.heap.size, k, none⟩ (.int .u8 (z k))) n (k + 1) z := by
  refine ⟨h.below.setCell (Nat.le_refl _) _, by simp [h.size], (h.row.set k _).congr (fun i _ => ?_)⟩
  by_cases e : i = k
  · subst e; simp
  · rw [if_neg e]
    by_cases hlt : i < k
    · rw [if_pos hlt, if_pos (by omega)]
    · rw [if_neg hlt, if_neg (by omega)]

set_option maxHeartbeats 400000 in
theorem clone_some (a : Addr) (n c : Nat) (z : Nat → Int) (w : World) (hn : n ≤ 1048576)
    (hz : ∀ i, i < n → ∃ b o, (some a : Option Addr) = some ⟨b, o, none⟩ ∧ w.cell? ⟨b, o + i, none⟩ = some (.int .u8 (z i))) :
    Calls Try.prog 8 #[.slice (some a) n c] w fun e w' => e = .returned (.slice (some ⟨w.heap.size, 0, none⟩) n n) ∧ CloneI w w' n n z := by
  have hmk := run_make_row' (P := Try.prog) 22 5 (.int .u8 0) 1 Try.underlying22 Try.info5 rfl .i64 .i64 n (by omega) (by omega)
  have hnil := Try.nil22
  go_enter Try.func8, Try.ntmps8
  go_wp2
  clear hmk hnil
  go_loopg [4] n (fun g i wr => ∃ k : Nat, k ≤ n ∧ g = n - k ∧ i = .int .i64 k ∧ CloneI w wr n k z)
  case atStart => exact ⟨0, Nat.zero_le _, rfl, rfl, cloneI_start w n z⟩
  case round =>
    obtain ⟨k, hk, rfl, rfl, hI⟩ := hrel
    by_cases hlt : k < n
    · obtain ⟨b, o, e, hc⟩ := hz k hlt
      obtain rfl : a = ⟨b, o, none⟩ := Option.some.inj e
      have hb : b < w.heap.size := World.block_lt_of_cell? _ _ hc
      have hz1 : (k : Int) < (n : Int) := by omega
      have h1 : wr.cell? ⟨b, o + k, none⟩ = some (.int .u8 (z k)) := by rw [hI.below.cell (p := ⟨b, o + k, none⟩) hb]; exact hc
      have h2 : wr.cell? ⟨w.heap.size, k, none⟩ = some (.int .u8 0) := by simpa using hI.row.cell hlt
      have h3 : wr.frozen? ⟨w.heap.size, k, none⟩ = false := hI.row.frozen k
      clear hc e
      go_wp2
      go_roundg (n - (k + 1))
      case measure => go_light; omega
      case rel => go_light; exact ⟨k + 1, by omega, rfl, by simp, cloneI_step hI⟩
    · have hz1 : ¬ (k : Int) < (n : Int) := by omega
      go_wp2
      go_ret
      obtain rfl : k = n := by omega
      exact ⟨rfl, hI⟩

theorem clone_nil (n c : Nat) (w : World) :
    Calls Try.prog 8 #[.slice none n c] w fun e w' => e = .returned (.slice none 0 0) ∧ w' = w := by
  have hnil := Try.nil22
  go_enter Try.func8, Try.ntmps8
  go_wp2
  go_ret
  exact ⟨rfl, rfl⟩

theorem CloneI.sl {w w' : World} {n : Nat} {z : Nat → Int} (h : CloneI w w' n n z) : Sl w' (.slice (some ⟨w.heap.size, 0, none⟩) n n) false n z :=
  ⟨_, n, rfl, rfl, Nat.le_refl _, fun h => by (cases h), fun i hi => ⟨w.heap.size, 0, rfl, by
    have := h.row.cell hi
    rw [if_pos hi] at this
    simpa using this⟩⟩

theorem clone_any (A : Option Addr) (N : Bool) (n c : Nat) (z : Nat → Int) (w : World) (hn : n ≤ 1048576) (h : Sl w (.slice A n c) N n z) :
    Calls Try.prog 8 #[.slice A n c] w fun e w' => ∃ A', e = .returned (.slice A' n n) ∧ Sl w' (.slice A' n n) N n z ∧ Below w.heap.size w w' := by
  obtain ⟨hN, hnc, hc0, hz⟩ := sl_lit h
  cases A with
  | none =>
    refine (clone_nil n c w).mono fun e w' ⟨he, hw⟩ => ?_
    subst hw
    have : c = 0 := hc0 rfl
    have hn0 : n = 0 := by omega
    subst hn0
    exact ⟨none, he, ⟨none, 0, rfl, hN, Nat.le_refl _, fun _ => rfl, fun i hi => absurd hi (Nat.not_lt_zero _)⟩, Below.refl _ _⟩
  | some a =>
    refine (clone_some a n c z w hn hz).mono fun e w' ⟨he, hw⟩ => ?_
    subst hN
    exact ⟨_, he, hw.sl, hw.below⟩

end Go.Proofs.Qxb6602824a
