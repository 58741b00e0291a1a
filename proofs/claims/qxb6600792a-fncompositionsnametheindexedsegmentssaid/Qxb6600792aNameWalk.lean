import Derived.Test.Qxb6600792aReads
import Derived.Test.Qxb6600792aClone
import Derived.Test.Qxb6600792aZComp
import Derived.Deep.QuietTactic
import Derived.BigQuiet
namespace Go.Proofs.Qxb6600792a
open Go.RowKit

set_option maxHeartbeats 1600000 in
set_option maxRecDepth 100000 in
theorem name_walk (ga : Option Addr) (G c : Nat) (N : Nat → Bool) (L : Nat → Nat) (Z : Nat → Nat → Int) (xa : Option Addr) (xn : Bool) (m mc : Nat) (X : Nat → Int) (w : World) (hga : ga = none → G = 0)
    (hp : Parts w ga G N L Z) (hx : Sl w (.slice xa m mc) xn m X) :
    Calls Try.prog 6 #[.slice ga G c, .slice xa m mc] w fun e w' => e = .returned (.bool true) ∧ Below w.heap.size w w' := by
  have hnil := Try.nil29
  go_enter Try.func6, Try.ntmps6
  go_wp2_with fail
  refine (bytesName_any ga G c N L Z xa m mc _ hp).mono ?_
  rintro e w1 ⟨⟨t, rfl⟩, rfl⟩
  cases t
  · go_wp2_with fail
    go_ret
    exact ⟨rfl, Below.refl _ _⟩
  go_wp2_with fail
  refine (partsBytes_any ga G c N L Z _ hp).mono ?_
  rintro e w1 ⟨z, rfl, hz, rfl⟩
  rcases hz with rfl | ⟨hz, hz1⟩
  · go_wp2_with fail
    go_ret
    exact ⟨rfl, Below.refl _ _⟩
  have hz0 : 0 ≤ z := by omega
  have HZ : Hid (z = 24 * (G : Int) + 8 * (sumTo L G : Int)) := hz
  clear hz
  by_cases hm1 : (131072 : Int) < (m : Int)
  · go_wp2_with fail
    go_ret
    exact ⟨rfl, Below.refl _ _⟩
  by_cases hm2 : (1048576 : Int) < z + 8 * (m : Int)
  · go_wp2_with fail
    go_ret
    exact ⟨rfl, Below.refl _ _⟩
  have hG : G ≤ 1048576 := by have := HZ.out; omega
  have hS : sumTo L G ≤ 1048576 := by have := HZ.out; omega
  have hm : m ≤ 1048576 := by omega
  have hL : ∀ r, r < G → L r ≤ 1048576 := fun r hr => by have := sumTo_le L hr; omega
  go_wp2_with fail
  refine (allIn_any ga G c N L Z m _ hG hL hp).mono ?_
  rintro e w1 ⟨⟨t, rfl, hin⟩, rfl⟩
  cases t
  · clear hin
    go_wp2_with fail
    go_ret
    exact ⟨rfl, Below.refl _ _⟩
  have HIN : Hid (∀ r, r < G → ∀ i, i < L r → 0 ≤ Z r i ∧ Z r i < m) := hin rfl
  clear hin
  go_wp2_with fail
  refine (cloneParts_any ga G c N L Z _ hG hL hga hp).mono ?_
  rintro e w2 ⟨ga2, c2, rfl, hp2, hb2⟩
  go_wp2_with fail
  refine (cloneInts_any xa xn m mc X _ hm (hx.below hb2 (Nat.le_refl _))).mono ?_
  rintro e w3 ⟨xa3, c3, rfl, hx3, hb3⟩
  have hp3 := hp2.below hb3 (Nat.le_refl _)
  go_wp2_with fail
  refine (zcompositions_any ga2 G c2 N L Z xa3 xn m c3 X _ hG hS hp3 hx3 hm HIN.out).mono ?_
  rintro e w4 ⟨B, A, rfl, hb4, hB, hacc, hhop, hnamed, hsl⟩
  have hp4 := hp3.below hb4 (Nat.le_refl _)
  have hx4 := hx3.below hb4 (Nat.le_refl _)
  have hs2 := hb2.size
  have hs3 := hb3.size
  have hs4 := hb4.size
  have hbel : Below w1.heap.size w1 w4 := (hb2.trans (hb3.mono (by omega))).trans (hb4.mono (by omega))
  have hle : w1.heap.size ≤ w4.heap.size := by omega
  clear hp hx hp2 hp3 hx3 hb2 hb3 hb4 hs2 hs3 hs4 hga hL HZ
  go_wp2_with fail
  clear hm1 hm2 hz0 hz1
  go_loopg [9] G (fun g i wr => ∃ (k : Nat), k ≤ G ∧ g = G - k ∧ i = .int .i64 k ∧ Below w4.heap.size w4 wr)
  case atStart => exact ⟨0, Nat.zero_le _, rfl, rfl, Below.refl _ _⟩
  case round =>
    obtain ⟨k, hk, rfl, rfl, hbr⟩ := hrel
    by_cases hlt : k < G
    · obtain ⟨gb, go, v, rfl, hc, A0, cc, rfl, _, _, _, hzp⟩ := hp4 k hlt
      obtain ⟨A1, c1, e1, hN1, _, _, hzn⟩ := hsl k hlt
      simp only [Value.slice.injEq, true_and] at e1
      obtain ⟨rfl, rfl⟩ := e1
      obtain ⟨A2, c2', e2, _, _, _, hzx⟩ := id hx4
      simp only [Value.slice.injEq, true_and] at e2
      obtain ⟨rfl, rfl⟩ := e2
      have hgb : gb < w4.heap.size := World.block_lt_of_cell? _ _ hc
      have hz1 : (k : Int) < (G : Int) := by omega
      have hLk : L k ≤ 1048576 := by have := sumTo_le L hlt; omega
      have g1 : wr.cell? ⟨gb, go + k, none⟩ = some (.slice A0 (L k) cc) := by rw [hbr.cell (p := ⟨gb, go + k, none⟩) hgb]; exact hc
      have g2 : wr.cell? ⟨B, k, none⟩ = some (.bool true) := by rw [hbr.cell (p := ⟨B, k, none⟩) hacc.lt]; exact hacc.cell hlt
      have g3 : wr.cell? ⟨B + 1, k, none⟩ = some (.bool true) := by rw [hbr.cell (p := ⟨B + 1, k, none⟩) hhop.lt]; exact hhop.cell hlt
      have g4 : wr.cell? ⟨B + 2, k, none⟩ = some (.slice (A k) (L k) (L k)) := by rw [hbr.cell (p := ⟨B + 2, k, none⟩) hnamed.lt]; exact hnamed.cell hlt
      clear hc
      go_wp2_with fail
      clear g1 g2 g3 g4 hN1
      go_loopg [11] (L k) (fun g i wx => ∃ (j : Nat), j ≤ L k ∧ g = L k - j ∧ i = .int .i64 j ∧ Below w4.heap.size w4 wx)
      case atStart => exact ⟨0, Nat.zero_le _, rfl, rfl, hbr⟩
      case round =>
        clear hbr
        obtain ⟨j, hj, rfl, rfl, hbr⟩ := hrel
        by_cases hjl : j < L k
        · obtain ⟨pb, po, rfl, hpc⟩ := hzp j hjl
          obtain ⟨nb, no, hAk, hnc⟩ := hzn j hjl
          have hinj := HIN.out k hlt j hjl
          obtain ⟨q, hq⟩ : ∃ q : Nat, Z k j = q := ⟨(Z k j).toNat, by omega⟩
          have hqm : q < m := by omega
          obtain ⟨xb, xo, rfl, hxc⟩ := hzx q hqm
          have t1 : wr.cell? ⟨B + 2, k, none⟩ = some (.slice (some ⟨nb, no, none⟩) (L k) (L k)) := by rw [hbr.cell (p := ⟨B + 2, k, none⟩) hnamed.lt, ← hAk]; exact hnamed.cell hlt
          have t2 : wr.cell? ⟨nb, no + j, none⟩ = some (.int .i64 (X q)) := by rw [hbr.cell (p := ⟨nb, no + j, none⟩) (World.block_lt_of_cell? _ _ hnc), hnc, hq]; simp
          have t3 : wr.cell? ⟨pb, po + j, none⟩ = some (.int .i64 (q : Int)) := by rw [hbr.cell (p := ⟨pb, po + j, none⟩) (World.block_lt_of_cell? _ _ hpc), hpc, hq]
          have t4 : wr.cell? ⟨xb, xo + q, none⟩ = some (.int .i64 (X q)) := by rw [hbr.cell (p := ⟨xb, xo + q, none⟩) (World.block_lt_of_cell? _ _ hxc)]; exact hxc
          have hz2 : (j : Int) < (L k : Int) := by omega
          have hz3 : (q : Int) < (m : Int) := by omega
          clear hzp hzn hpc hnc hxc hAk hinj hq hzx
          go_wp2_with fail
          go_quiet (fail)
          go_wp2
          go_roundg (L k - (j + 1))
          case measure => go_light; omega
          case rel => go_light; exact ⟨j + 1, by omega, rfl, by simp, below_drewN hbr _⟩
        · have hz2 : ¬ (j : Int) < (L k : Int) := by omega
          go_wp2_with fail
          go_roundg (G - (k + 1))
          case measure => go_light; omega
          case rel => go_light; exact ⟨k + 1, by omega, rfl, by simp, hbr⟩
    · have hz1 : ¬ (k : Int) < (G : Int) := by omega
      go_wp2_with fail
      go_ret
      exact ⟨rfl, hbel.trans (hbr.mono hle)⟩
end Go.Proofs.Qxb6600792a
