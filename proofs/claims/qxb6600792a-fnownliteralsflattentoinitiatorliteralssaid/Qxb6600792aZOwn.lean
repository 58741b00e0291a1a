import Derived.Test.Qxb6600792aOwn
import Derived.Test.Qxb6600792aComp
namespace Go.Proofs.Qxb6600792a
open Go.RowKit

/-- The segments that ZZOwnLiterals lays, k of them filled. -/
structure ZS (w wr : World) (N : Nat → Bool) (L : Nat → Nat) (Z : Nat → Nat → Int) (G k : Nat) (f : Nat → Value) : Prop where
  below : Below w.heap.size w wr
  size : w.heap.size < wr.heap.size
  row : wr.rowIs w.heap.size 42 (G * 3) f
  pre : ∀ j, j < G → f (j * 3) = .bool false ∧ f (j * 3 + 1) = .slice none 0 0
  done : ∀ j, j < k → ∃ A c, f (j * 3 + 2) = .slice A (L j) c ∧ Sl w (.slice A (L j) c) (N j) (L j) (Z j)
  todo : ∀ j, k ≤ j → f (j * 3 + 2) = .slice none 0 0

theorem zs_start (w : World) (N : Nat → Bool) (L : Nat → Nat) (Z : Nat → Nat → Int) (G : Nat) :
    ZS w (w.alloc (.cells (madeCells #[.bool false, .slice none 0 0, .slice none 0 0] (G * 3)) 42)) N L Z G 0 (fun c => if c % 3 = 0 then .bool false else .slice none 0 0) := by
  refine ⟨(Below.refl _ _).alloc (Nat.le_refl _) _, by simp, ?_, fun j _ => ?_, fun j hj => absurd hj (Nat.not_lt_zero _), fun j _ => ?_⟩
  · have h := World.rowIs_alloc w (madeCells #[.bool false, .slice none 0 0, .slice none 0 0] (G * 3)) 42 (fun c => if c % 3 = 0 then .bool false else .slice none 0 0) (fun c hc => by
      rw [size_madeCells] at hc
      have h3 : c % 3 = 0 ∨ c % 3 = 1 ∨ c % 3 = 2 := by omega
      simp only [madeCells]
      rcases h3 with h3 | h3 | h3 <;> simp [hc, h3])
    rw [size_madeCells] at h
    exact h
  · have d0 : (j * 3) % 3 = 0 := by omega
    have d1 : (j * 3 + 1) % 3 = 1 := by omega
    simp [d0, d1]
  · have d2 : (j * 3 + 2) % 3 = 2 := by omega
    simp [d2]

theorem zs_step {w wr : World} {N : Nat → Bool} {L : Nat → Nat} {Z : Nat → Nat → Int} {G k : Nat} {f : Nat → Value} (h : ZS w wr N L Z G k f) {A : Option Addr} {c : Nat} (hs : Sl w (.slice A (L k) c) (N k) (L k) (Z k)) :
    ZS w (wr.setCell ⟨w.heap.size, k * 3 + 2, none⟩ (.slice A (L k) c)) N L Z G (k + 1) (fun j => if j = k * 3 + 2 then .slice A (L k) c else f j) := by
  refine ⟨h.below.setCell (Nat.le_refl _) _, by simpa using h.size, h.row.set _ _, fun j hj => ?_, fun j hj => ?_, fun j hj => ?_⟩
  · have e0 : ¬ j * 3 = k * 3 + 2 := by omega
    have e1 : ¬ j * 3 + 1 = k * 3 + 2 := by omega
    simp only [if_neg e0, if_neg e1]
    exact h.pre j hj
  · by_cases e : j = k
    · subst e
      exact ⟨A, c, by simp, hs⟩
    · have e2 : ¬ j * 3 + 2 = k * 3 + 2 := by omega
      simp only [if_neg e2]
      exact h.done j (by omega)
  · have e2 : ¬ j * 3 + 2 = k * 3 + 2 := by omega
    simp only [if_neg e2]
    exact h.todo j (by omega)

theorem ZS.segs {w wr : World} {N : Nat → Bool} {L : Nat → Nat} {Z : Nat → Nat → Int} {G : Nat} {f : Nat → Value} (h : ZS w wr N L Z G G f) : Segs wr w.heap.size G N L Z := by
  intro i hi
  obtain ⟨A, c, e, hs⟩ := h.done i hi
  refine ⟨by rw [h.row.cell (by omega), (h.pre i hi).1], by rw [h.row.cell (by omega), (h.pre i hi).2], A, c, by rw [h.row.cell (by omega), e], hs.below h.below (Nat.le_refl _)⟩

/-- What ZZOwnLiterals hands back. -/
def ZOR (w : World) (T : Nat → Option (List Int)) (G : Nat) (e : Ending) (w' : World) : Prop :=
  ∃ (lb : Nat) (f : Nat → Value), e = .returned (.slice (some ⟨lb, 0, none⟩) G G) ∧ Below w.heap.size w w' ∧ w'.rowIs lb 29 G f ∧ ∀ j, j < G → OSl w' (f j) (T j)

set_option maxHeartbeats 800000 in
set_option maxRecDepth 100000 in
theorem zownLiterals_any (ga : Option Addr) (G c : Nat) (N : Nat → Bool) (L : Nat → Nat) (Z : Nat → Nat → Int) (n lim : Int) (w : World) (hG : G ≤ 1048576) (hL : ∀ r, r < G → L r ≤ 1048576) (hp : Parts w ga G N L Z)
    (hin : ∀ r, r < G → ∀ i, i < L r → 0 ≤ Z r i ∧ Z r i < G)
    (hbd : ∀ i, i < G → ∀ k, k ≤ L i → ∀ l, accRow (ownTab n lim N L Z i) lim (Z i) k = some l → l.length ≤ 4194304) :
    Calls Try.prog 14 #[.slice ga G c, .int .i64 n, .int .i64 lim] w fun e w' => ZOR w (ownTab n lim N L Z G) G e w' := by
  have hmk := run_make_seg G hG
  go_enter Try.func14, Try.ntmps14
  go_wp2_with fail
  clear hmk
  have h0 := zs_start w N L Z G
  go_loopg [14] G (fun g i wr => ∃ (k : Nat), k ≤ G ∧ g = G - k ∧ i = .int .i64 k ∧ ∃ f, ZS w wr N L Z G k f)
  case atStart => exact ⟨0, Nat.zero_le _, rfl, rfl, _, h0⟩
  case round =>
    clear h0
    obtain ⟨k, hk, rfl, rfl, f, hI⟩ := hrel
    by_cases hlt : k < G
    · obtain ⟨gb, go, v, rfl, hc, hs⟩ := hp k hlt
      obtain ⟨A, cc, rfl, _⟩ := id hs
      have hz1 : (k : Int) < (G : Int) := by omega
      have g1 : wr.cell? ⟨gb, go + k, none⟩ = some (.slice A (L k) cc) := by rw [hI.below.cell (p := ⟨gb, go + k, none⟩) (World.block_lt_of_cell? _ _ hc)]; exact hc
      have g2 : wr.cell? ⟨w.heap.size, k * 3 + 2, none⟩ = some (.slice none 0 0) := by rw [hI.row.cell (by omega), hI.todo k (Nat.le_refl _)]
      have g3 : wr.frozen? ⟨w.heap.size, k * 3 + 2, none⟩ = false := hI.row.frozen _
      have hst := zs_step hI hs
      clear hc hs hI
      go_wp2_with fail
      go_roundg (G - (k + 1))
      case measure => go_light; omega
      case rel => go_light; exact ⟨k + 1, by omega, rfl, by simp, _, hst⟩
    · have hz1 : ¬ (k : Int) < (G : Int) := by omega
      obtain rfl : G = k := by omega
      go_wp2_with fail
      refine (ownLiterals_any w.heap.size G N L Z n lim _ hG hL hI.segs hin hbd).mono ?_
      rintro e w1 ⟨rfl, f1, hO⟩
      have hs1 := hI.size
      have hR : ZOR w (ownTab n lim N L Z G) G (.returned (.slice (some ⟨wr.heap.size, 0, none⟩) G G)) w1 := ⟨_, f1, rfl, hI.below.trans (hO.below.mono (by omega)), hO.row, hO.done⟩
      clear hI hO
      go_wp2_with fail
      go_ret
      exact hR
end Go.Proofs.Qxb6600792a
