import Derived.Test.Qxb6600792aBase
namespace Go.Proofs.Qxb6600792a
open Go.RowKit

/-- zzCloneInts at a slice that is not nil: the world behind. -/
structure CloneI (w w' : World) (n k : Nat) (z : Nat → Int) : Prop where
  below : Below w.heap.size w w'
  size : w'.heap.size = w.heap.size + 1
  row : w'.rowIs w.heap.size 3 n (fun i => if i < k then .int .i64 (z i) else .int .i64 0)

theorem cloneI_start (w : World) (n : Nat) (z : Nat → Int) : CloneI w (w.alloc (.cells (madeCells #[.int .i64 0] n) 3)) n 0 z :=
  ⟨(Below.refl _ _).alloc (Nat.le_refl _) _, by simp, (World.rowIs_made w _ n 3).congr (fun j _ => by simp)⟩

theorem cloneI_step {w w' : World} {n k : Nat} {z : Nat → Int} (h : CloneI w w' n k z) :
    CloneI w (w'.setCell ⟨w.heap.size, k, none⟩ (.int .i64 (z k))) n (k + 1) z := by
  refine ⟨h.below.setCell (Nat.le_refl _) _, by simp [h.size], (h.row.set k _).congr (fun i _ => ?_)⟩
  by_cases e : i = k
  · subst e; simp
  · rw [if_neg e]
    by_cases hlt : i < k
    · rw [if_pos hlt, if_pos (by omega)]
    · rw [if_neg hlt, if_neg (by omega)]

set_option maxHeartbeats 400000 in
theorem cloneInts_some (a : Addr) (n c : Nat) (z : Nat → Int) (w : World) (hn : n ≤ 1048576)
    (hz : ∀ i, i < n → ∃ b o, (some a : Option Addr) = some ⟨b, o, none⟩ ∧ w.cell? ⟨b, o + i, none⟩ = some (.int .i64 (z i))) :
    Calls Try.prog 20 #[.slice (some a) n c] w fun e w' => e = .returned (.slice (some ⟨w.heap.size, 0, none⟩) n n) ∧ CloneI w w' n n z := by
  have hmk := run_make_row' (P := Try.prog) 29 3 (.int .i64 0) 8 Try.underlying29 Try.info3 rfl .i64 .i64 n (by omega) (by omega)
  have hnil := Try.nil29
  go_enter Try.func20, Try.ntmps20
  go_wp2
  clear hmk hnil
  go_loopg [4] n (fun g i wr => ∃ k : Nat, k ≤ n ∧ g = n - k ∧ i = .int .i64 k ∧ CloneI w wr n k z)
  case atStart => exact ⟨0, Nat.zero_le _, rfl, rfl, cloneI_start w n z⟩
  case round =>
    obtain ⟨k, hk, rfl, rfl, hI⟩ := hrel
    by_cases hlt : k < n
    · obtain ⟨b, o, e, hc⟩ := hz k hlt
      obtain rfl : a = ⟨b, o, none⟩ := Option.some.inj e
      have hb : b < w.heap.size := World.block_lt_of_cell? _ _ hc
      have hz1 : (k : Int) < (n : Int) := by omega
      have h1 : wr.cell? ⟨b, o + k, none⟩ = some (.int .i64 (z k)) := by rw [hI.below.cell (p := ⟨b, o + k, none⟩) hb]; exact hc
      have h2 : wr.cell? ⟨w.heap.size, k, none⟩ = some (.int .i64 0) := by simpa using hI.row.cell hlt
      have h3 : wr.frozen? ⟨w.heap.size, k, none⟩ = false := hI.row.frozen k
      clear hc e
      go_wp2
      go_roundg (n - (k + 1))
      case measure => go_light; omega
      case rel => go_light; exact ⟨k + 1, by omega, rfl, by simp, cloneI_step hI⟩
    · have hz1 : ¬ (k : Int) < (n : Int) := by omega
      go_wp2
      go_ret
      obtain rfl : k = n := by omega
      exact ⟨rfl, hI⟩

theorem cloneInts_nil (n c : Nat) (w : World) :
    Calls Try.prog 20 #[.slice none n c] w fun e w' => e = .returned (.slice none 0 0) ∧ w' = w := by
  have hnil := Try.nil29
  go_enter Try.func20, Try.ntmps20
  go_wp2
  go_ret
  exact ⟨rfl, rfl⟩

theorem CloneI.sl {w w' : World} {n : Nat} {z : Nat → Int} (h : CloneI w w' n n z) : Sl w' (.slice (some ⟨w.heap.size, 0, none⟩) n n) false n z :=
  ⟨_, n, rfl, rfl, Nat.le_refl _, fun h => by (cases h), fun i hi => ⟨w.heap.size, 0, rfl, by
    have := h.row.cell hi
    rw [if_pos hi] at this
    simpa using this⟩⟩

theorem cloneInts_any (A : Option Addr) (N : Bool) (n c : Nat) (z : Nat → Int) (w : World) (hn : n ≤ 1048576) (h : Sl w (.slice A n c) N n z) :
    Calls Try.prog 20 #[.slice A n c] w fun e w' => ∃ A' c', e = .returned (.slice A' n c') ∧ Sl w' (.slice A' n c') N n z ∧ Below w.heap.size w w' := by
  obtain ⟨A0, c0, e0, hN, hnc, hc0, hz⟩ := h
  simp only [Value.slice.injEq, true_and] at e0
  obtain ⟨rfl, rfl⟩ := e0
  cases A with
  | none =>
    refine (cloneInts_nil n c w).mono fun e w' ⟨he, hw⟩ => ?_
    subst hw
    have : c = 0 := hc0 rfl
    have hn0 : n = 0 := by omega
    subst hn0
    exact ⟨none, 0, he, ⟨none, 0, rfl, hN, Nat.le_refl _, fun _ => rfl, fun i hi => absurd hi (Nat.not_lt_zero _)⟩, Below.refl _ _⟩
  | some a =>
    refine (cloneInts_some a n c z w hn hz).mono fun e w' ⟨he, hw⟩ => ?_
    subst hN
    exact ⟨_, n, he, hw.sl, hw.below⟩

structure CloneP (w wr : World) (G i : Nat) (N : Nat → Bool) (L : Nat → Nat) (Z : Nat → Nat → Int) (f : Nat → Value) : Prop where
  below : Below w.heap.size w wr
  size : w.heap.size < wr.heap.size
  row : wr.rowIs w.heap.size 29 G f
  done : ∀ j, j < i → Sl wr (f j) (N j) (L j) (Z j)
  todo : ∀ j, i ≤ j → f j = .slice none 0 0

theorem cloneP_start (w : World) (G : Nat) (N : Nat → Bool) (L : Nat → Nat) (Z : Nat → Nat → Int) :
    CloneP w (w.alloc (.cells (madeCells #[.slice none 0 0] G) 29)) G 0 N L Z (fun _ => .slice none 0 0) :=
  ⟨(Below.refl _ _).alloc (Nat.le_refl _) _, by simp, World.rowIs_made w _ G 29, fun j hj => absurd hj (Nat.not_lt_zero _), fun _ _ => rfl⟩

theorem cloneP_step {w wr w1 : World} {G i : Nat} {N : Nat → Bool} {L : Nat → Nat} {Z : Nat → Nat → Int} {f : Nat → Value} (h : CloneP w wr G i N L Z f) (hi : i < G) (hb : Below wr.heap.size wr w1)
    {A : Option Addr} {n c : Nat} (hs : Sl w1 (.slice A n c) (N i) (L i) (Z i)) :
    CloneP w (w1.setCell ⟨w.heap.size, i, none⟩ (.slice A n c)) G (i + 1) N L Z (fun j => if j = i then .slice A n c else f j) := by
  have hrow1 : w1.rowIs w.heap.size 29 G f := h.row.of_block (hb.block _ h.size)
  have hcell : w1.cell? ⟨w.heap.size, i, none⟩ = some (.slice none 0 0) := by rw [hrow1.cell hi, h.todo i (Nat.le_refl _)]
  have hs1 := hb.size
  have hs2 := h.size
  refine ⟨(h.below.trans (hb.mono (by omega))).setCell (Nat.le_refl _) _, by simp; omega, hrow1.set i _, fun j hj => ?_, fun j hj => ?_⟩
  · by_cases e : j = i
    · subst e
      simpa using hs.setCell hcell _
    · simp only [if_neg e]
      exact ((h.done j (by omega)).below hb (Nat.le_refl _)).setCell hcell _
  · have e : ¬ j = i := by omega
    simp only [if_neg e]
    exact h.todo j (by omega)

set_option maxHeartbeats 400000 in
theorem cloneParts_some (a : Addr) (G c : Nat) (N : Nat → Bool) (L : Nat → Nat) (Z : Nat → Nat → Int) (w : World) (hG : G ≤ 1048576) (hL : ∀ r, r < G → L r ≤ 1048576) (hp : Parts w (some a) G N L Z) :
    Calls Try.prog 13 #[.slice (some a) G c] w fun e w' => e = .returned (.slice (some ⟨w.heap.size, 0, none⟩) G G) ∧ ∃ f, CloneP w w' G G N L Z f := by
  have hmk := run_make_row' (P := Try.prog) 22 29 (.slice none 0 0) 24 Try.underlying22 Try.info29 rfl .i64 .i64 G (by omega) (by omega)
  have hnil := Try.nil22
  go_enter Try.func13, Try.ntmps13
  go_wp2
  clear hmk hnil
  go_loopg [4] G (fun g i wr => ∃ k : Nat, k ≤ G ∧ g = G - k ∧ i = .int .i64 k ∧ ∃ f, CloneP w wr G k N L Z f)
  case atStart => exact ⟨0, Nat.zero_le _, rfl, rfl, _, cloneP_start w G N L Z⟩
  case round =>
    obtain ⟨k, hk, rfl, rfl, f, hI⟩ := hrel
    by_cases hlt : k < G
    · obtain ⟨gb, go, v, e, hc, hs⟩ := hp k hlt
      obtain rfl : a = ⟨gb, go, none⟩ := Option.some.inj e
      have hb : gb < w.heap.size := World.block_lt_of_cell? _ _ hc
      have hz1 : (k : Int) < (G : Int) := by omega
      obtain ⟨A, cc, rfl, hrest⟩ := id hs
      have h1 : wr.cell? ⟨gb, go + k, none⟩ = some (.slice A (L k) cc) := by rw [hI.below.cell (p := ⟨gb, go + k, none⟩) hb]; exact hc
      have hs' := hs.below hI.below (Nat.le_refl _)
      clear hc e hrest hs
      go_wp2_with fail
      refine (cloneInts_any A (N k) (L k) cc (Z k) _ (hL k hlt) hs').mono ?_
      rintro e w1 ⟨A', c', rfl, hs1, hb1⟩
      have hstep := cloneP_step hI hlt hb1 hs1
      have hrow1 : w1.rowIs w.heap.size 29 G f := hI.row.of_block (hb1.block _ hI.size)
      have h2 : w1.cell? ⟨w.heap.size, k, none⟩ = some (.slice none 0 0) := by rw [hrow1.cell hlt, hI.todo k (Nat.le_refl _)]
      have h3 : w1.frozen? ⟨w.heap.size, k, none⟩ = false := hrow1.frozen k
      clear hs' h1 hs1 hb1 hrow1 hI
      go_wp2
      go_roundg (G - (k + 1))
      case measure => go_light; omega
      case rel => go_light; exact ⟨k + 1, by omega, rfl, by simp, _, hstep⟩
    · have hz1 : ¬ (k : Int) < (G : Int) := by omega
      go_wp2
      go_ret
      obtain rfl : k = G := by omega
      exact ⟨rfl, f, hI⟩

theorem cloneParts_nil (n c : Nat) (w : World) :
    Calls Try.prog 13 #[.slice none n c] w fun e w' => e = .returned (.slice none 0 0) ∧ w' = w := by
  have hnil := Try.nil22
  go_enter Try.func13, Try.ntmps13
  go_wp2
  go_ret
  exact ⟨rfl, rfl⟩

theorem cloneParts_any (ga : Option Addr) (G c : Nat) (N : Nat → Bool) (L : Nat → Nat) (Z : Nat → Nat → Int) (w : World) (hG : G ≤ 1048576) (hL : ∀ r, r < G → L r ≤ 1048576) (hnil : ga = none → G = 0) (hp : Parts w ga G N L Z) :
    Calls Try.prog 13 #[.slice ga G c] w fun e w' => ∃ ga' c', e = .returned (.slice ga' G c') ∧ Parts w' ga' G N L Z ∧ Below w.heap.size w w' := by
  cases ga with
  | none =>
    refine (cloneParts_nil G c w).mono fun e w' ⟨he, hw⟩ => ?_
    subst hw
    have := hnil rfl
    subst this
    exact ⟨none, 0, he, fun r hr => absurd hr (Nat.not_lt_zero _), Below.refl _ _⟩
  | some a =>
    refine (cloneParts_some a G c N L Z w hG hL hp).mono fun e w' ⟨he, f, hw⟩ => ?_
    exact ⟨_, _, he, fun r hr => ⟨w.heap.size, 0, f r, rfl, by simpa using hw.row.cell hr, hw.done r hr⟩, hw.below⟩

end Go.Proofs.Qxb6600792a
