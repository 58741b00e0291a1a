import Derived.Test.Qxb6600792aComp
namespace Go.Proofs.Qxb6600792a
open Go.RowKit

/-- Where segment i's own slice begins. -/
def nAddr (nb : Nat) (L : Nat → Nat) (i : Nat) : Option Addr := if L i = 0 then some ⟨nb, 0, none⟩ else some ⟨nb, sumTo L i, none⟩

theorem Comp.cell2 {w wr : World} {X : Nat → Int} {L : Nat → Nat} {Z : Nat → Nat → Int} {G : Nat} (h : Comp w wr X L Z G G 0) {i : Nat} (hi : i < G) :
    wr.cell? ⟨w.heap.size + 1, i * 3 + 2, none⟩ = some (.slice (nAddr w.heap.size L i) (L i) (L i)) := by
  rw [h.segs.cell (by omega), segF]
  have d1 : (i * 3 + 2) / 3 = i := by omega
  have d2 : (i * 3 + 2) % 3 = 2 := by omega
  simp [d1, d2, hi, nAddr]

theorem Comp.sl {w wr : World} {X : Nat → Int} {L : Nat → Nat} {Z : Nat → Nat → Int} {G : Nat} (h : Comp w wr X L Z G G 0) {i : Nat} (hi : i < G) :
    Sl wr (.slice (nAddr w.heap.size L i) (L i) (L i)) false (L i) (fun k => X (Z i k).toNat) := by
  obtain ⟨A, h1, h2⟩ := h.seg2 hi
  rw [h.cell2 hi] at h1
  rw [Option.some.inj h1]
  exact h2

/-- ZZCompositions' three new rows when k segments are laid out; w1: the world behind compositions. -/
structure ZC (w1 wr : World) (A : Nat → Option Addr) (L : Nat → Nat) (G k : Nat) : Prop where
  below : Below w1.heap.size w1 wr
  size : wr.heap.size = w1.heap.size + 3
  acc : wr.rowIs w1.heap.size 4 G (fun j => .bool (decide (j < k)))
  hop : wr.rowIs (w1.heap.size + 1) 4 G (fun j => .bool (decide (j < k)))
  named : wr.rowIs (w1.heap.size + 2) 29 G (fun j => if j < k then .slice (A j) (L j) (L j) else .slice none 0 0)

theorem zc_start (w1 : World) (A : Nat → Option Addr) (L : Nat → Nat) (G : Nat) :
    ZC w1 (((w1.alloc (.cells (madeCells #[.bool false] G) 4)).alloc (.cells (madeCells #[.bool false] G) 4)).alloc (.cells (madeCells #[.slice none 0 0] G) 29)) A L G 0 := by
  have h1 := World.rowIs_made w1 (.bool false) G 4
  have h2 := World.rowIs_made (w1.alloc (.cells (madeCells #[.bool false] G) 4)) (.bool false) G 4
  have h3 := World.rowIs_made ((w1.alloc (.cells (madeCells #[.bool false] G) 4)).alloc (.cells (madeCells #[.bool false] G) 4)) (.slice none 0 0) G 29
  refine ⟨(((Below.refl _ _).alloc (Nat.le_refl _) _).alloc (by simp) _).alloc (by simp; omega) _, by simp, ((h1.alloc _).alloc _).congr (fun j _ => by simp), ?_, ?_⟩
  · have := (h2.alloc (.cells (madeCells #[.slice none 0 0] G) 29))
    simp only [World.size_alloc] at this
    exact this.congr (fun j _ => by simp)
  · simp only [World.size_alloc] at h3
    exact h3.congr (fun j _ => by simp)

theorem zc_step {w1 wr : World} {A : Nat → Option Addr} {L : Nat → Nat} {G k : Nat} (h : ZC w1 wr A L G k) :
    ZC w1 (((wr.setCell ⟨w1.heap.size, k, none⟩ (.bool true)).setCell ⟨w1.heap.size + 1, k, none⟩ (.bool true)).setCell ⟨w1.heap.size + 2, k, none⟩ (.slice (A k) (L k) (L k))) A L G (k + 1) := by
  have aux : ∀ j, j < G → (if j = k then Value.bool true else .bool (decide (j < k))) = .bool (decide (j < k + 1)) := fun j _ => by
    by_cases e : j = k
    · subst e; simp
    · rw [if_neg e]
      have : decide (j < k) = decide (j < k + 1) := by rw [decide_eq_decide]; omega
      rw [this]
  refine ⟨((h.below.setCell (Nat.le_refl _) _).setCell (by simp) _).setCell (by simp) _, by simpa using h.size, ?_, ?_, ?_⟩
  · exact (((h.acc.set k _).setOther (by simp) _).setOther (by simp) _).congr aux
  · exact (((h.hop.setOther (by simp) _).set k _).setOther (by simp) _).congr aux
  · refine (((h.named.setOther (by simp) _).setOther (by simp) _).set k _).congr (fun j _ => ?_)
    by_cases e : j = k
    · subst e; simp
    · rw [if_neg e]
      by_cases hlt : j < k
      · rw [if_pos hlt, if_pos (by omega)]
      · rw [if_neg hlt, if_neg (by omega)]

/-- What ZZCompositions hands back. -/
def ZCR (w : World) (X : Nat → Int) (L : Nat → Nat) (Z : Nat → Nat → Int) (G : Nat) (e : Ending) (w' : World) : Prop :=
  ∃ (B : Nat) (A : Nat → Option Addr), e = .returned (.tuple #[.slice (some ⟨B, 0, none⟩) G G, .slice (some ⟨B + 1, 0, none⟩) G G, .slice (some ⟨B + 2, 0, none⟩) G G]) ∧ Below w.heap.size w w' ∧ w.heap.size ≤ B ∧
    w'.rowIs B 4 G (fun _ => .bool true) ∧ w'.rowIs (B + 1) 4 G (fun _ => .bool true) ∧ w'.rowIs (B + 2) 29 G (fun j => .slice (A j) (L j) (L j)) ∧
    ∀ j, j < G → Sl w' (.slice (A j) (L j) (L j)) false (L j) (fun k => X (Z j k).toNat)

set_option maxHeartbeats 800000 in
theorem zcompositions_any (ga : Option Addr) (G c : Nat) (N : Nat → Bool) (L : Nat → Nat) (Z : Nat → Nat → Int) (xa : Option Addr) (xn : Bool) (m mc : Nat) (X : Nat → Int) (w : World) (hG : G ≤ 1048576) (hS : sumTo L G ≤ 1048576)
    (hp : Parts w ga G N L Z) (hx : Sl w (.slice xa m mc) xn m X) (hm : m ≤ 1048576) (hin : ∀ r, r < G → ∀ i, i < L r → 0 ≤ Z r i ∧ Z r i < m) :
    Calls Try.prog 21 #[.slice ga G c, .slice xa m mc] w fun e w' => ZCR w X L Z G e w' := by
  have hmk1 := run_make_row' (P := Try.prog) 34 4 (.bool false) 1 Try.underlying34 Try.info4 rfl .i64 .i64 G (by omega) (by omega)
  have hmk2 := run_make_row' (P := Try.prog) 22 29 (.slice none 0 0) 24 Try.underlying22 Try.info29 rfl .i64 .i64 G (by omega) (by omega)
  have hnil := Try.nil40
  go_enter Try.func21, Try.ntmps21
  go_wp2_with fail
  refine (compositions_any ga G c N L Z xa xn m mc X _ hG hS hp hx hm hin).mono ?_
  rintro e w1 ⟨rfl, hC⟩
  clear hp hx hin
  go_wp2_with fail
  have h0 := zc_start w1 (nAddr w.heap.size L) L G
  clear hmk1 hmk2
  go_loopg [23] G (fun g i wr => ∃ (k : Nat), k ≤ G ∧ g = G - k ∧ i = .int .i64 k ∧ ZC w1 wr (nAddr w.heap.size L) L G k)
  case atStart => exact ⟨0, Nat.zero_le _, rfl, rfl, h0⟩
  case round =>
    obtain ⟨k, hk, rfl, rfl, hI⟩ := hrel
    clear h0
    by_cases hlt : k < G
    · have hz1 : (k : Int) < (G : Int) := by omega
      have hsz := hC.size
      have hbel : ∀ o, wr.cell? ⟨w.heap.size + 1, o, none⟩ = w1.cell? ⟨w.heap.size + 1, o, none⟩ := fun o => hI.below.cell (p := ⟨w.heap.size + 1, o, none⟩) (by show w.heap.size + 1 < _; omega)
      have c0 := (hbel _).trans (hC.seg0 hlt)
      have c1 := (hbel _).trans (hC.seg1 hlt)
      have c2 := (hbel _).trans (hC.cell2 hlt)
      have a0 := hI.acc.cell hlt
      have a1 := hI.acc.frozen k
      have b0 := hI.hop.cell hlt
      have b1 := hI.hop.frozen k
      have n0 := hI.named.cell hlt
      have n1 := hI.named.frozen k
      simp only [Nat.lt_irrefl, decide_false, if_false] at a0 b0 n0
      clear hbel
      go_wp2
      go_roundg (G - (k + 1))
      case measure => go_light; omega
      case rel => go_light; exact ⟨k + 1, by omega, rfl, by simp, zc_step hI⟩
    · have hz1 : ¬ (k : Int) < (G : Int) := by omega
      obtain rfl : G = k := by omega
      have hsz := hC.size
      go_wp2
      go_ret3
      refine ⟨w1.heap.size, nAddr w.heap.size L, rfl, hC.below.trans (hI.below.mono (by omega)), by omega, hI.acc.congr (fun j hj => by simp [hj]), hI.hop.congr (fun j hj => by simp [hj]), hI.named.congr (fun j hj => by simp [hj]), fun j hj => (hC.sl hj).below hI.below (Nat.le_refl _)⟩
end Go.Proofs.Qxb6600792a
