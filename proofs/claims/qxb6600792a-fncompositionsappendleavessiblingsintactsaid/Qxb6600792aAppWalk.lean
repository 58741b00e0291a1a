import Derived.Test.Qxb6600792aReads
import Derived.Test.Qxb6600792aClone
import Derived.Test.Qxb6600792aZComp
import Derived.Test.Qxb6600792aOwns
import Derived.Deep.QuietTactic
import Derived.BigQuiet
namespace Go.Proofs.Qxb6600792a
open Go.RowKit

/-- What named[j] reads as behind its append. -/
def apz (X : Nat → Int) (L : Nat → Nat) (Z : Nat → Nat → Int) (j i : Nat) : Int := if i < L j then X (Z j i).toNat else -1 - (j : Int)

/-- k of the lists have been appended to; w3: the world ahead of ZZCompositions. -/
structure App (w3 wr : World) (B : Nat) (A : Nat → Option Addr) (X : Nat → Int) (L : Nat → Nat) (Z : Nat → Nat → Int) (G k : Nat) (f : Nat → Value) : Prop where
  below : Below w3.heap.size w3 wr
  row : wr.rowIs (B + 2) 29 G f
  done : ∀ j, j < k → Sl wr (f j) false (L j + 1) (apz X L Z j)
  todo : ∀ j, k ≤ j → j < G → f j = .slice (A j) (L j) (L j) ∧ Sl wr (.slice (A j) (L j) (L j)) false (L j) (fun i => X (Z j i).toNat)

theorem app_step {w3 wr w1 : World} {B : Nat} {A : Nat → Option Addr} {X : Nat → Int} {L : Nat → Nat} {Z : Nat → Nat → Int} {G k : Nat} {f : Nat → Value} {o : Obj} {g cap : Nat} (hB : w3.heap.size ≤ B) (h : App w3 wr B A X L Z G k f) (hk : k < G)
    (hown : w1.ownsRow (wr.heap.size + 1) 3 1 (.slice (some ⟨g, 0, none⟩) (L k + 1) cap) (L k + 1) (((List.range (L k)).map fun i => .int .i64 (X (Z k i).toNat)) ++ [.int .i64 (-1 - (k : Int))]))
    (hg : (wr.alloc o).grownBy w1 none) :
    App w3 (w1.setCell ⟨B + 2, k, none⟩ (.slice (some ⟨g, 0, none⟩) (L k + 1) cap)) B A X L Z G (k + 1) (fun j => if j = k then .slice (some ⟨g, 0, none⟩) (L k + 1) cap else f j) ∧
    w1.cell? ⟨B + 2, k, none⟩ = some (.slice (A k) (L k) (L k)) ∧ w1.frozen? ⟨B + 2, k, none⟩ = false := by
  have hsz := h.below.size
  have hb1 : Below wr.heap.size wr w1 := ((Below.refl _ _).alloc (Nat.le_refl _) o).grown hg (by simp) (fun k e => by cases e)
  have hrow1 : w1.rowIs (B + 2) 29 G f := h.row.of_block (hb1.block _ h.row.lt)
  have hcell : w1.cell? ⟨B + 2, k, none⟩ = some (.slice (A k) (L k) (L k)) := by rw [hrow1.cell hk, (h.todo k (Nat.le_refl _) hk).1]
  have hnew : Sl w1 (.slice (some ⟨g, 0, none⟩) (L k + 1) cap) false (L k + 1) (apz X L Z k) := sl_of_owns hown (fun i hi => by
    by_cases e : i < L k
    · rw [List.getElem?_append_left (by simpa using e)]
      simp [e, apz]
    · obtain rfl : i = L k := by omega
      rw [List.getElem?_append_right (by simp)]
      simp [apz])
  refine ⟨⟨(h.below.trans (hb1.mono hsz)).setCell (by show _ ≤ B + 2; omega) _, hrow1.set k _, fun j hj => ?_, fun j hj hjG => ?_⟩, hcell, hrow1.frozen k⟩
  · by_cases e : j = k
    · subst e
      simpa using hnew.setCell hcell _
    · simp only [if_neg e]
      exact ((h.done j (by omega)).below hb1 (Nat.le_refl _)).setCell hcell _
  · have e : ¬ j = k := by omega
    simp only [if_neg e]
    have := h.todo j (by omega) hjG
    exact ⟨this.1, (this.2.below hb1 (Nat.le_refl _)).setCell hcell _⟩

set_option maxHeartbeats 3200000 in
set_option maxRecDepth 100000 in
theorem app_walk (ga : Option Addr) (G c : Nat) (N : Nat → Bool) (L : Nat → Nat) (Z : Nat → Nat → Int) (xa : Option Addr) (xn : Bool) (m mc : Nat) (X : Nat → Int) (w : World) (hga : ga = none → G = 0)
    (hp : Parts w ga G N L Z) (hx : Sl w (.slice xa m mc) xn m X) :
    Calls Try.prog 7 #[.slice ga G c, .slice xa m mc] w fun e w' => e = .returned (.bool true) ∧ Below w.heap.size w w' := by
  obtain ⟨i0, hi, hzz, hsz, hby⟩ := info_parts Try.info3
  go_enter Try.func7, Try.ntmps7
  go_wp2_with fail
  refine (bytesAppend_any ga G c N L Z xa m mc _ hp).mono ?_
  rintro e w1 ⟨⟨t, rfl⟩, rfl⟩
  cases t
  · go_wp2_with fail
    go_ret
    exact ⟨rfl, Below.refl _ _⟩
  go_wp2_with fail
  refine (partsBytes_any ga G c N L Z _ hp).mono ?_
  rintro e w1 ⟨z, rfl, hz, rfl⟩
  rcases hz with rfl | ⟨hz, hz1⟩
  · go_wp2_with fail
    go_ret
    exact ⟨rfl, Below.refl _ _⟩
  have hz0 : 0 ≤ z := by omega
  have HZ : Hid (z = 24 * (G : Int) + 8 * (sumTo L G : Int)) := hz
  clear hz
  by_cases hm1 : (131072 : Int) < (m : Int)
  · go_wp2_with fail
    go_ret
    exact ⟨rfl, Below.refl _ _⟩
  by_cases hm2 : (1048576 : Int) < z + 8 * (m : Int)
  · go_wp2_with fail
    go_ret
    exact ⟨rfl, Below.refl _ _⟩
  have hG : G ≤ 1048576 := by have := HZ.out; omega
  have hS : sumTo L G ≤ 1048576 := by have := HZ.out; omega
  have hm : m ≤ 1048576 := by omega
  have hL : ∀ r, r < G → L r ≤ 1048576 := fun r hr => by have := sumTo_le L hr; omega
  go_wp2_with fail
  refine (allIn_any ga G c N L Z m _ hG hL hp).mono ?_
  rintro e w1 ⟨⟨t, rfl, hin⟩, rfl⟩
  cases t
  · clear hin
    go_wp2_with fail
    go_ret
    exact ⟨rfl, Below.refl _ _⟩
  have HIN : Hid (∀ r, r < G → ∀ i, i < L r → 0 ≤ Z r i ∧ Z r i < m) := hin rfl
  clear hin
  go_wp2_with fail
  refine (cloneParts_any ga G c N L Z _ hG hL hga hp).mono ?_
  rintro e w2 ⟨ga2, c2, rfl, hp2, hb2⟩
  go_wp2_with fail
  refine (cloneInts_any xa xn m mc X _ hm (hx.below hb2 (Nat.le_refl _))).mono ?_
  rintro e w3 ⟨xa3, c3, rfl, hx3, hb3⟩
  have hp3 := hp2.below hb3 (Nat.le_refl _)
  go_wp2_with fail
  refine (zcompositions_any ga2 G c2 N L Z xa3 xn m c3 X _ hG hS hp3 hx3 hm HIN.out).mono ?_
  rintro e w4 ⟨B, A, rfl, hb4, hB, hacc, hhop, hnamed, hsl⟩
  have hs2 := hb2.size
  have hs3 := hb3.size
  have hbel : Below w1.heap.size w1 w3 := hb2.trans (hb3.mono (by omega))
  have hle : w1.heap.size ≤ w3.heap.size := by omega
  have hA0 : App w3 w4 B A X L Z G 0 (fun j => .slice (A j) (L j) (L j)) := ⟨hb4, hnamed, fun j hj => absurd hj (Nat.not_lt_zero _), fun j _ hj => ⟨rfl, hsl j hj⟩⟩
  clear hp hx hp2 hb2 hb3 hb4 hs2 hs3 hga hL HZ hacc hhop hnamed hsl
  go_wp2_with fail
  clear hm1 hm2 hz0 hz1
  go_loopg [9] G (fun g i wr => ∃ (k : Nat), k ≤ G ∧ g = G - k ∧ i = .int .i64 k ∧ ∃ f, App w3 wr B A X L Z G k f)
  case atStart => exact ⟨0, Nat.zero_le _, rfl, rfl, _, hA0⟩
  case round =>
    clear hA0
    obtain ⟨k, hk, rfl, rfl, f, hI⟩ := hrel
    by_cases hlt : k < G
    · have hz1 : (k : Int) < (G : Int) := by omega
      have hLk : L k ≤ 1048576 := by have := sumTo_le L hlt; omega
      obtain ⟨ef, hslk⟩ := hI.todo k (Nat.le_refl _) hlt
      have g1 : wr.cell? ⟨B + 2, k, none⟩ = some (.slice (A k) (L k) (L k)) := by rw [hI.row.cell hlt, ef]
      have hnone : A k = none → L k = 0 ∧ L k = 0 := fun e => by
        obtain ⟨A0, c0, e0, hN, _⟩ := hslk
        simp only [Value.slice.injEq, true_and] at e0
        rw [← e0.1, e] at hN
        cases hN
      have HN : Hid (A k = none → L k = 0 ∧ L k = 0) := hnone
      have hbl : B + 2 < wr.heap.size := hI.row.lt
      have holds : Hid (∀ o b, A k = some b → ∀ j u, ((List.range (L k)).map fun i => Value.int .i64 (X (Z k i).toNat))[j]? = some u → (wr.alloc o).cell? (b.add j) = some u) := fun o b hb j u hu =>
        ((hslk.below ((Below.refl wr.heap.size wr).alloc (Nat.le_refl _) o) (Nat.le_refl _)).olds) b hb j u hu
      clear ef hnone
      go_wp2_with (at_builtin; refine wpList_append_grows _ rfl (.tmp 66) (.tmp 69) 29 rfl 3 i0 (.int .i64 0) 1 8 Try.underlying29 hi hzz hsz hby rfl (by decide) (A k) (L k) (L k) ((List.range (L k)).map fun i => .int .i64 (X (Z k i).toNat)) rfl HN.out (by simp) (holds.out _) ⟨wr.heap.size, 0, none⟩ 1 1 [.int .i64 (-1 - (k : Int))] rfl rfl ?_ ?_ ?_ ?_ ?_ ?_)
      · exact cell_one_new _ _ _
      · intro u hu; simp at hu; subst hu; rfl
      · omega
      · unfold maxLen; omega
      · omega
      · intro v' w1' hown hgrow
        obtain ⟨g, cap, rfl, hgb⟩ := owns_shape hown (by omega)
        obtain ⟨hA1, t1, t2⟩ := app_step hB hI hlt hown hgrow
        clear hown hgrow hI g1 holds hslk HN
        go_wp2
        go_roundg (G - (k + 1))
        case measure => go_light; omega
        case rel => go_light; exact ⟨k + 1, by omega, rfl, by simp, _, hA1⟩
    · have hz1 : ¬ (k : Int) < (G : Int) := by omega
      obtain rfl : G = k := by omega
      have hs3 := hI.below.size
      have hp4 : Parts wr ga2 G N L Z := hp3.below hI.below (Nat.le_refl _)
      have hx4 : Sl wr (.slice xa3 m c3) xn m X := hx3.below hI.below (Nat.le_refl _)
      obtain ⟨w5, hw5⟩ : ∃ w5 : World, w5 = wr := ⟨_, rfl⟩
      have hbel5 : Below w1.heap.size w1 w5 := by rw [hw5]; exact hbel.trans (hI.below.mono hle)
      have hle5 : w1.heap.size ≤ w5.heap.size := by rw [hw5]; omega
      have hp5 : Parts w5 ga2 G N L Z := by rw [hw5]; exact hp4
      have hx5 : Sl w5 (.slice xa3 m c3) xn m X := by rw [hw5]; exact hx4
      have hI5 : App w3 w5 B A X L Z G G f := by rw [hw5]; exact hI
      have hst : Below w5.heap.size w5 wr := by rw [hw5]; exact Below.refl _ _
      clear hp3 hx3 hp4 hx4 hI hw5 hbel hle hs3
      go_wp2_with fail
      go_loopg [10] G (fun g i wr => ∃ (k : Nat), k ≤ G ∧ g = G - k ∧ i = .int .i64 k ∧ Below w5.heap.size w5 wr)
      case atStart => exact ⟨0, Nat.zero_le _, rfl, rfl, hst⟩
      case round =>
        clear hst hz1 hlt hk
        obtain ⟨k, hk, rfl, rfl, hbr⟩ := hrel
        by_cases hlt : k < G
        · obtain ⟨gb, go, v, rfl, hc, A0, cc, rfl, _, _, _, hzp⟩ := hp5 k hlt
          obtain ⟨A1, c1, e1, hN1, _, _, hzn⟩ := hI5.done k hlt
          obtain ⟨b0, o0, rfl, hn0⟩ := hzn (L k) (by omega)
          have hLk : L k ≤ 1048576 := by have := sumTo_le L hlt; omega
          have hz1 : (k : Int) < (G : Int) := by omega
          have g1 : wr.cell? ⟨gb, go + k, none⟩ = some (.slice A0 (L k) cc) := by rw [hbr.cell (p := ⟨gb, go + k, none⟩) (World.block_lt_of_cell? _ _ hc)]; exact hc
          have g2 : wr.cell? ⟨B + 2, k, none⟩ = some (.slice (some ⟨b0, o0, none⟩) (L k + 1) c1) := by rw [hbr.cell (p := ⟨B + 2, k, none⟩) hI5.row.lt, hI5.row.cell hlt, e1]
          have g3 : wr.cell? ⟨b0, o0 + L k, none⟩ = some (.int .i64 (-1 - (k : Int))) := by
            rw [hbr.cell (p := ⟨b0, o0 + L k, none⟩) (World.block_lt_of_cell? _ _ hn0), hn0]; simp [apz]
          clear hc hn0
          go_wp2_with fail
          clear g1 g3
          go_loopg [12] (L k) (fun g i wx => ∃ (j : Nat), j ≤ L k ∧ g = L k - j ∧ i = .int .i64 j ∧ Below w5.heap.size w5 wx)
          case atStart => exact ⟨0, Nat.zero_le _, rfl, rfl, hbr⟩
          case round =>
            clear hbr g2
            obtain ⟨j, hj, rfl, rfl, hbr⟩ := hrel
            by_cases hjl : j < L k
            · obtain ⟨pb, po, rfl, hpc⟩ := hzp j hjl
              obtain ⟨nb, no, hAk, hnc⟩ := hzn j (by omega)
              simp only [Option.some.injEq, Addr.mk.injEq, and_true] at hAk
              obtain ⟨rfl, rfl⟩ := hAk
              obtain ⟨A2, c2', e2, _, _, _, hzx⟩ := id hx5
              simp only [Value.slice.injEq, true_and] at e2
              obtain ⟨rfl, rfl⟩ := e2
              have hinj := HIN.out k hlt j hjl
              obtain ⟨q, hq⟩ : ∃ q : Nat, Z k j = q := ⟨(Z k j).toNat, by omega⟩
              have hqm : q < m := by omega
              obtain ⟨xb, xo, rfl, hxc⟩ := hzx q hqm
              have t1 : wr.cell? ⟨B + 2, k, none⟩ = some (.slice (some ⟨b0, o0, none⟩) (L k + 1) c1) := by rw [hbr.cell (p := ⟨B + 2, k, none⟩) hI5.row.lt, hI5.row.cell hlt, e1]
              have t2 : wr.cell? ⟨b0, o0 + j, none⟩ = some (.int .i64 (X q)) := by rw [hbr.cell (p := ⟨b0, o0 + j, none⟩) (World.block_lt_of_cell? _ _ hnc), hnc]; simp [apz, hjl, hq]
              have t3 : wr.cell? ⟨pb, po + j, none⟩ = some (.int .i64 (q : Int)) := by rw [hbr.cell (p := ⟨pb, po + j, none⟩) (World.block_lt_of_cell? _ _ hpc), hpc, hq]
              have t4 : wr.cell? ⟨xb, xo + q, none⟩ = some (.int .i64 (X q)) := by rw [hbr.cell (p := ⟨xb, xo + q, none⟩) (World.block_lt_of_cell? _ _ hxc)]; exact hxc
              have hz2 : (j : Int) < (L k : Int) := by omega
              have hz2' : (j : Int) < (L k : Int) + 1 := by omega
              have hz3 : (q : Int) < (m : Int) := by omega
              have E1 : Hid (f k = .slice (some ⟨b0, o0, none⟩) (L k + 1) c1) := e1
              clear hzp hzn hpc hnc hxc hinj hq hzx e1
              go_wp2_with fail
              go_quiet (fail)
              go_wp2
              go_roundg (L k - (j + 1))
              case measure => go_light; omega
              case rel => go_light; exact ⟨j + 1, by omega, rfl, by simp, below_drewN hbr _⟩
            · have hz2 : ¬ (j : Int) < (L k : Int) := by omega
              go_wp2_with fail
              go_roundg (G - (k + 1))
              case measure => go_light; omega
              case rel => go_light; exact ⟨k + 1, by omega, rfl, by simp, hbr⟩
        · have hz1 : ¬ (k : Int) < (G : Int) := by omega
          go_wp2_with fail
          go_ret
          exact ⟨rfl, hbel5.trans (hbr.mono hle5)⟩
end Go.Proofs.Qxb6600792a
