import Derived.Test.Qxb6600792aBase
namespace Go.Proofs.Qxb6600792a
open Go.RowKit

/-- What compositions has laid end to end when the rows below i are done. -/
def flat (X : Nat → Int) (L : Nat → Nat) (Z : Nat → Nat → Int) : Nat → List Value
  | 0 => []
  | i + 1 => flat X L Z i ++ (List.range (L i)).map fun k => .int .i64 (X (Z i k).toNat)

def flatK (X : Nat → Int) (L : Nat → Nat) (Z : Nat → Nat → Int) (i k : Nat) : List Value := flat X L Z i ++ (List.range k).map fun k => .int .i64 (X (Z i k).toNat)

theorem flat_length (X : Nat → Int) (L : Nat → Nat) (Z : Nat → Nat → Int) : ∀ i, (flat X L Z i).length = sumTo L i
  | 0 => rfl
  | i + 1 => by simp [flat, sumTo, flat_length X L Z i]

theorem flat_get (X : Nat → Int) (L : Nat → Nat) (Z : Nat → Nat → Int) {j k : Nat} (hk : k < L j) : ∀ i, j < i → (flat X L Z i)[sumTo L j + k]? = some (.int .i64 (X (Z j k).toNat)) := by
  intro i hi
  induction i with
  | zero => omega
  | succ i ih =>
    show (flat X L Z i ++ _)[sumTo L j + k]? = _
    by_cases e : j = i
    · subst e
      rw [List.getElem?_append_right (by rw [flat_length]; omega), flat_length]
      simp [hk]
    · have h := sumTo_le L (show j < i by omega)
      rw [List.getElem?_append_left (by rw [flat_length]; omega)]
      exact ih (by omega)

/-- The cells of compositions' segments when i of them are done. -/
def segF (nb : Nat) (L : Nat → Nat) (i : Nat) (c : Nat) : Value :=
  if c / 3 < i then
    (if c % 3 = 0 then .bool true else if c % 3 = 1 then .slice none 0 0 else .slice (if L (c / 3) = 0 then some ⟨nb, 0, none⟩ else some ⟨nb, sumTo L (c / 3), none⟩) (L (c / 3)) (L (c / 3)))
  else (if c % 3 = 0 then .bool false else .slice none 0 0)

structure Comp (w wr : World) (X : Nat → Int) (L : Nat → Nat) (Z : Nat → Nat → Int) (G i k : Nat) : Prop where
  below : Below w.heap.size w wr
  size : w.heap.size + 2 ≤ wr.heap.size
  own : wr.ownsRow w.heap.size 3 1 (.slice (some ⟨w.heap.size, 0, none⟩) (sumTo L i + k) (sumTo L G)) (sumTo L i + k) (flatK X L Z i k)
  segs : wr.rowIs (w.heap.size + 1) 42 (G * 3) (segF w.heap.size L i)

theorem run_make_seg (G : Nat) (hG : G ≤ 1048576) (w : World) :
    (Instr.makeSlice 38 (.int .i64 (G : Int)) (.int .i64 (G : Int))).run Try.prog w = .ok (.slice (some ⟨w.heap.size, 0, none⟩) G G) (w.alloc (.cells (madeCells #[.bool false, .slice none 0 0, .slice none 0 0] (G * 3)) 42)) := by
  obtain ⟨i, hi, hz, hs, hb⟩ := info_parts Try.info42
  have hr := run_make (P := Try.prog) w 38 42 i _ Try.underlying38 hi hz .i64 .i64 G G (by omega) (by omega) (by rw [hb]; omega) (by omega)
  simp only [Int.toNat_natCast, hs] at hr
  exact hr

theorem run_make_named (S : Nat) (hS : S ≤ 1048576) (w : World) :
    (Instr.makeSlice 29 (.int .i64 0) (.int .i64 (S : Int))).run Try.prog w = .ok (.slice (some ⟨w.heap.size, 0, none⟩) 0 S) (w.alloc (.cells (madeCells #[.int .i64 0] S) 3)) := by
  obtain ⟨i, hi, hz, hs, hb⟩ := info_parts Try.info3
  have hr := run_make (P := Try.prog) w 29 3 i _ Try.underlying29 hi hz .i64 .i64 0 S (by omega) (by omega) (by rw [hb]; omega) (by omega)
  simp only [Int.toNat_natCast, hs, Nat.mul_one] at hr
  exact hr

theorem comp_start (w : World) (X : Nat → Int) (L : Nat → Nat) (Z : Nat → Nat → Int) (G : Nat) (hS : sumTo L G ≤ 1048576) :
    Comp w ((w.alloc (.cells (madeCells #[.int .i64 0] (sumTo L G)) 3)).alloc (.cells (madeCells #[.bool false, .slice none 0 0, .slice none 0 0] (G * 3)) 42)) X L Z G 0 0 := by
  refine ⟨((Below.refl _ _).alloc (Nat.le_refl _) _).alloc (by simp) _, by simp, ?_, ?_⟩
  · exact (World.ownsRow_made w _ _ (Nat.le_refl _) (by unfold maxLen; omega) (by rw [size_madeCells]; omega)).alloc _
  · have h := World.rowIs_alloc (w.alloc (.cells (madeCells #[.int .i64 0] (sumTo L G)) 3)) (madeCells #[.bool false, .slice none 0 0, .slice none 0 0] (G * 3)) 42 (segF w.heap.size L 0) (fun c hc => by
      rw [size_madeCells] at hc
      have h3 : c % 3 = 0 ∨ c % 3 = 1 ∨ c % 3 = 2 := by omega
      simp only [madeCells, segF, Nat.not_lt_zero, if_false]
      rcases h3 with h3 | h3 | h3 <;> simp [hc, h3])
    rw [size_madeCells] at h
    simpa using h

theorem comp_push {w wr w1 : World} {X : Nat → Int} {L : Nat → Nat} {Z : Nat → Nat → Int} {G i k q : Nat} {o : Obj} (h : Comp w wr X L Z G i k) (hq : Z i k = q)
    (hown : w1.ownsRow w.heap.size 3 1 (.slice (some ⟨w.heap.size, 0, none⟩) (sumTo L i + k + 1) (sumTo L G)) (sumTo L i + k + 1) (flatK X L Z i k ++ [.int .i64 (X q)]))
    (hg : (wr.alloc o).grownBy w1 (some w.heap.size)) : Comp w w1 X L Z G i (k + 1) := by
  have hs := h.size
  have e : flatK X L Z i (k + 1) = flatK X L Z i k ++ [.int .i64 (X q)] := by
    simp [flatK, List.range_succ, hq]
  refine ⟨(h.below.alloc (by omega) o).grown hg (by simp; omega) (fun k e => by simp at e; omega), ?_, by rw [e]; exact hown, (h.segs.alloc o).of_block (hg.block _ (by simp; omega) (by simp))⟩
  have := hg.size
  simp at this
  omega

/-- A segment's three cells are stored. -/
theorem comp_seg {w wr : World} {X : Nat → Int} {L : Nat → Nat} {Z : Nat → Nat → Int} {G i : Nat} (h : Comp w wr X L Z G i (L i)) {u : Value} (hu : u = .slice (if L i = 0 then some ⟨w.heap.size, 0, none⟩ else some ⟨w.heap.size, sumTo L i, none⟩) (L i) (L i)) :
    Comp w (((wr.setCell ⟨w.heap.size + 1, i * 3, none⟩ (.bool true)).setCell ⟨w.heap.size + 1, i * 3 + 1, none⟩ (.slice none 0 0)).setCell ⟨w.heap.size + 1, i * 3 + 2, none⟩ u) X L Z G (i + 1) 0 := by
  subst hu
  have hs := h.size
  refine ⟨((h.below.setCell (by simp) _).setCell (by simp) _).setCell (by simp) _, by simpa using hs, ?_, ((((h.segs.set _ _).set _ _).set _ _).congr (fun c _ => ?_))⟩
  · have e : flatK X L Z (i + 1) 0 = flatK X L Z i (L i) := by simp [flatK, flat]
    rw [e]
    refine h.own.kept (row := some (w.heap.size + 1)) ⟨rfl, rfl, rfl, by simp, fun k _ hk => ?_⟩ (by right; simp [Value.ownBlock])
    have hk' : k ≠ w.heap.size + 1 := fun e => hk (by rw [e])
    rw [Below.heap_setCell _ _ _ _ hk', Below.heap_setCell _ _ _ _ hk', Below.heap_setCell _ _ _ _ hk']
  · simp only [segF]
    by_cases e2 : c = i * 3 + 2
    · subst e2
      have d1 : (i * 3 + 2) / 3 = i := by omega
      have d2 : (i * 3 + 2) % 3 = 2 := by omega
      simp [d1, d2]
    · rw [if_neg e2]
      by_cases e1 : c = i * 3 + 1
      · subst e1
        have d1 : (i * 3 + 1) / 3 = i := by omega
        have d2 : (i * 3 + 1) % 3 = 1 := by omega
        simp [d1, d2]
      · rw [if_neg e1]
        by_cases e0 : c = i * 3
        · subst e0
          have d1 : (i * 3) / 3 = i := by omega
          have d2 : (i * 3) % 3 = 0 := by omega
          simp [d1, d2]
        · rw [if_neg e0]
          by_cases hlt : c / 3 < i
          · have hlt' : c / 3 < i + 1 := by omega
            simp [hlt, hlt']
          · have hlt' : ¬ c / 3 < i + 1 := by omega
            simp [hlt, hlt']

set_option maxHeartbeats 800000 in
theorem compositions_any (ga : Option Addr) (G c : Nat) (N : Nat → Bool) (L : Nat → Nat) (Z : Nat → Nat → Int) (xa : Option Addr) (xn : Bool) (m mc : Nat) (X : Nat → Int) (w : World) (hG : G ≤ 1048576) (hS : sumTo L G ≤ 1048576)
    (hp : Parts w ga G N L Z) (hx : Sl w (.slice xa m mc) xn m X) (_hm : m ≤ 1048576) (hin : ∀ r, r < G → ∀ i, i < L r → 0 ≤ Z r i ∧ Z r i < m) :
    Calls Try.prog 25 #[.slice ga G c, .slice xa m mc] w fun e w' => e = .returned (.slice (some ⟨w.heap.size + 1, 0, none⟩) G G) ∧ Comp w w' X L Z G G 0 := by
  have hmk1 := run_make_named (sumTo L G) hS
  have hmk2 := run_make_seg G hG
  go_enter Try.func25, Try.ntmps25
  go_wp2
  go_loopg [5, 17] G (fun g s i wr => w = wr ∧ ∃ (k : Nat), k ≤ G ∧ g = G - k ∧ i = .int .i64 k ∧ s = .int .i64 (sumTo L k))
  case atStart => exact ⟨rfl, 0, Nat.zero_le _, rfl, rfl, rfl⟩
  case round =>
    obtain ⟨rfl, k, hk, rfl, rfl, rfl⟩ := hrel
    by_cases hlt : k < G
    · obtain ⟨gb, go, v, rfl, hc, A, cc, rfl, _⟩ := hp k hlt
      have hz1 : (k : Int) < (G : Int) := by omega
      have hs := sumTo_le L hlt
      have HS : Hid (sumTo L (k + 1) = sumTo L k + L k) := rfl
      clear hmk1 hmk2
      go_wp2
      go_roundg (G - (k + 1))
      case measure => go_light; omega
      case rel => go_light; exact ⟨rfl, k + 1, by omega, rfl, by simp, by rw [HS.out]; simp⟩
    · have hz1 : ¬ (k : Int) < (G : Int) := by omega
      obtain rfl : G = k := by omega
      go_wp2
      clear hmk1 hmk2
      have h0 := comp_start w X L Z G hS
      obtain ⟨i0, hi, hzz, hsz, hby⟩ := info_parts Try.info3
      go_loopg [8, 33] G (fun g s i wr => ∃ (k : Nat), k ≤ G ∧ g = G - k ∧ i = .int .i64 k ∧ s = .slice (some ⟨w.heap.size, 0, none⟩) (sumTo L k) (sumTo L G) ∧ Comp w wr X L Z G k 0)
      case atStart => exact ⟨0, Nat.zero_le _, rfl, rfl, rfl, h0⟩
      case round =>
        obtain ⟨i, hik, rfl, rfl, rfl, hC⟩ := hrel
        clear h0
        by_cases hlt : i < G
        · obtain ⟨gb, go, v, rfl, hc, A, cc, rfl, _, _, _, hz⟩ := hp i hlt
          have hgb : gb < w.heap.size := World.block_lt_of_cell? _ _ hc
          have hz1' : (i : Int) < (G : Int) := by omega
          have hs := sumTo_le L hlt
          have h1 : wr.cell? ⟨gb, go + i, none⟩ = some (.slice A (L i) cc) := by rw [hC.below.cell (p := ⟨gb, go + i, none⟩) hgb]; exact hc
          clear hc
          go_wp2
          go_loopg [8, 42] (L i) (fun g s j wr => ∃ (k : Nat), k ≤ L i ∧ g = L i - k ∧ j = .int .i64 k ∧ s = .slice (some ⟨w.heap.size, 0, none⟩) (sumTo L i + k) (sumTo L G) ∧ Comp w wr X L Z G i k)
          case atStart => exact ⟨0, Nat.zero_le _, rfl, rfl, rfl, hC⟩
          case round =>
            clear hC h1
            obtain ⟨k, hkL, rfl, rfl, rfl, hC⟩ := hrel
            by_cases hkl : k < L i
            · obtain ⟨b, o, rfl, hcell⟩ := hz k hkl
              have hb : b < w.heap.size := World.block_lt_of_cell? _ _ hcell
              obtain ⟨q, hq⟩ : ∃ q : Nat, Z i k = q := ⟨(Z i k).toNat, by have := hin i hlt k hkl; omega⟩
              have hqm : q < m := by have := hin i hlt k hkl; omega
              obtain ⟨A0, c0, e0, _, _, _, hzx⟩ := hx
              simp only [Value.slice.injEq, true_and] at e0
              obtain ⟨rfl, rfl⟩ := e0
              obtain ⟨xb, xo, rfl, hxc⟩ := hzx q hqm
              have hxb : xb < w.heap.size := World.block_lt_of_cell? _ _ hxc
              have g1 : wr.cell? ⟨b, o + k, none⟩ = some (.int .i64 (q : Int)) := by rw [hC.below.cell (p := ⟨b, o + k, none⟩) hb, hcell, hq]
              have g2 : wr.cell? ⟨xb, xo + q, none⟩ = some (.int .i64 (X q)) := by rw [hC.below.cell (p := ⟨xb, xo + q, none⟩) hxb]; exact hxc
              have hz2 : (k : Int) < (L i : Int) := by omega
              have hz3 : (q : Int) < (m : Int) := by omega
              have HQ : Hid (Z i k = q) := hq
              clear hzx hxc hcell hq hz
              go_wp2_with (at_builtin; refine wpList_append_fits _ rfl (.tmp 46) (.tmp 51) 29 rfl w.heap.size 3 i0 1 Try.underlying29 hi hsz w.heap.size (sumTo L i + k) (sumTo L G) _ rfl (hC.own.alloc _) ⟨wr.heap.size, 0, none⟩ 1 1 [.int .i64 (X q)] rfl rfl ?_ ?_ ?_ ?_)
              · exact cell_one_new _ _ _
              · intro u hu; simp at hu; subst hu; rfl
              · omega
              · intro w1 hown hgrow
                have hC1 := comp_push hC HQ.out hown hgrow
                clear hown hgrow hC g1 g2
                go_wp2
                go_roundg (L i - (k + 1))
                case measure => go_light; omega
                case rel => go_light; exact ⟨k + 1, by omega, rfl, by simp, rfl, hC1⟩
            · have hz2 : ¬ (k : Int) < (L i : Int) := by omega
              obtain rfl : L i = k := by omega
              have f0 := hC.segs.frozen (i * 3)
              have f1 := hC.segs.frozen (i * 3 + 1)
              have f2 := hC.segs.frozen (i * 3 + 2)
              have d0 := hC.segs.cell (i := i * 3) (by omega)
              have d1 := hC.segs.cell (i := i * 3 + 1) (by omega)
              have d2 := hC.segs.cell (i := i * 3 + 2) (by omega)
              go_wp2
              all_goals
                clear f0 f1 f2 d0 d1 d2
                go_roundg (G - (i + 1))
                case measure => go_light; omega
                case rel => go_light; exact ⟨i + 1, by omega, rfl, by simp, by simp [sumTo, *], comp_seg hC (by simp [*])⟩
        · have hz1' : ¬ (i : Int) < (G : Int) := by omega
          obtain rfl : G = i := by omega
          go_wp2
          go_ret
          exact ⟨rfl, hC⟩

/-- What the segments read as: cell by cell, and each one's own slice. -/
theorem Comp.seg0 {w wr : World} {X : Nat → Int} {L : Nat → Nat} {Z : Nat → Nat → Int} {G : Nat} (h : Comp w wr X L Z G G 0) {i : Nat} (hi : i < G) : wr.cell? ⟨w.heap.size + 1, i * 3, none⟩ = some (.bool true) := by
  rw [h.segs.cell (by omega), segF]
  have d1 : (i * 3) / 3 = i := by omega
  have d2 : (i * 3) % 3 = 0 := by omega
  simp [d1, d2, hi]

theorem Comp.seg1 {w wr : World} {X : Nat → Int} {L : Nat → Nat} {Z : Nat → Nat → Int} {G : Nat} (h : Comp w wr X L Z G G 0) {i : Nat} (hi : i < G) : wr.cell? ⟨w.heap.size + 1, i * 3 + 1, none⟩ = some (.slice none 0 0) := by
  rw [h.segs.cell (by omega), segF]
  have d1 : (i * 3 + 1) / 3 = i := by omega
  have d2 : (i * 3 + 1) % 3 = 1 := by omega
  simp [d1, d2, hi]

theorem Comp.seg2 {w wr : World} {X : Nat → Int} {L : Nat → Nat} {Z : Nat → Nat → Int} {G : Nat} (h : Comp w wr X L Z G G 0) {i : Nat} (hi : i < G) :
    ∃ A, wr.cell? ⟨w.heap.size + 1, i * 3 + 2, none⟩ = some (.slice A (L i) (L i)) ∧ Sl wr (.slice A (L i) (L i)) false (L i) (fun k => X (Z i k).toNat) := by
  rw [h.segs.cell (by omega), segF]
  have d1 : (i * 3 + 2) / 3 = i := by omega
  have d2 : (i * 3 + 2) % 3 = 2 := by omega
  refine ⟨if L i = 0 then some ⟨w.heap.size, 0, none⟩ else some ⟨w.heap.size, sumTo L i, none⟩, by simp [d1, d2, hi], _, L i, rfl, by (split <;> rfl), Nat.le_refl _, fun e => by (split at e <;> cases e), fun k hk => ?_⟩
  refine ⟨w.heap.size, sumTo L i, by rw [if_neg (by omega)], ?_⟩
  have hs := sumTo_le L hi
  rw [h.own.cellAt (sumTo L i + k) (by omega)]
  have := flat_get X L Z hk G hi
  simpa [flatK] using this

end Go.Proofs.Qxb6600792a
