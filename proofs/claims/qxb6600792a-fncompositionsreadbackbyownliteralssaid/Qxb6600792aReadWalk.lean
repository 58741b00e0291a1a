import Derived.Test.Qxb6600792aReads
import Derived.Test.Qxb6600792aClone
import Derived.Test.Qxb6600792aZComp
import Derived.Test.Qxb6600792aZOwn
import Derived.Test.Qxb6600792aReadDef
import Derived.Deep.QuietTactic
import Derived.BigQuiet
namespace Go.Proofs.Qxb6600792a
open Go.RowKit

theorem Try.nneq29 : ∀ (w : World) (a : Option Addr) (n c n' c' : Nat), (binOp .neq 29 (.slice a n c) (.slice none n' c')).run Try.prog w = .ok (.bool (!a.isNone)) w := fun w a n c n' c' => run_neq_slice_nil_any w 29 3 a n c n' c' Try.underlying29

/-- 'all' when k lists are laid behind its M nils. -/
structure AllR (w4 wr : World) (A : Nat → Option Addr) (L : Nat → Nat) (M G k : Nat) : Prop where
  below : Below w4.heap.size w4 wr
  row : wr.rowIs w4.heap.size 29 (M + G) (fun r => if r < M then .slice none 0 0 else if r - M < k then .slice (A (r - M)) (L (r - M)) (L (r - M)) else .slice none 0 0)

theorem allR_start (w4 : World) (A : Nat → Option Addr) (L : Nat → Nat) (M G : Nat) : AllR w4 (w4.alloc (.cells (madeCells #[.slice none 0 0] (M + G)) 29)) A L M G 0 :=
  ⟨(Below.refl _ _).alloc (Nat.le_refl _) _, (World.rowIs_made w4 _ (M + G) 29).congr (fun j _ => by simp)⟩

theorem allR_step {w4 wr : World} {A : Nat → Option Addr} {L : Nat → Nat} {M G k : Nat} (h : AllR w4 wr A L M G k) : AllR w4 (wr.setCell ⟨w4.heap.size, M + k, none⟩ (.slice (A k) (L k) (L k))) A L M G (k + 1) := by
  refine ⟨h.below.setCell (Nat.le_refl _) _, (h.row.set _ _).congr (fun r _ => ?_)⟩
  by_cases e : r = M + k
  · subst e
    rw [if_pos rfl, if_neg (by omega), Nat.add_sub_cancel_left, if_pos (by omega)]
  · rw [if_neg e]
    by_cases hM : r < M
    · rw [if_pos hM, if_pos hM]
    · rw [if_neg hM, if_neg hM]
      by_cases hk : r - M < k
      · rw [if_pos hk, if_pos (by omega)]
      · rw [if_neg hk, if_neg (by omega)]

theorem AllR.parts {w4 wr : World} {A : Nat → Option Addr} {L : Nat → Nat} {Y : Nat → Nat → Int} {M G : Nat} (h : AllR w4 wr A L M G G) (hs : ∀ j, j < G → Sl w4 (.slice (A j) (L j) (L j)) false (L j) (Y j)) :
    Parts wr (some ⟨w4.heap.size, 0, none⟩) (M + G) (allN M) (allL M L) (allZ M Y) := by
  intro r hr
  refine ⟨w4.heap.size, 0, _, rfl, by rw [Nat.zero_add]; exact h.row.cell hr, ?_⟩
  by_cases hM : r < M
  · have e1 : allN M r = true := by simp [allN, hM]
    have e2 : allL M L r = 0 := by simp [allL, hM]
    rw [if_pos hM, e1, e2]
    exact ⟨none, 0, rfl, rfl, Nat.le_refl _, fun _ => rfl, fun i hi => absurd hi (Nat.not_lt_zero _)⟩
  · obtain ⟨j, rfl⟩ : ∃ j, r = M + j := ⟨r - M, by omega⟩
    rw [if_neg hM, Nat.add_sub_cancel_left, if_pos (by omega), allN_at, allL_at, allZ_at]
    exact (hs j (by omega)).below h.below (Nat.le_refl _)

/-- What the law's own 'ok' stands for behind k of the parts. -/
def OkTo (n lim : Int) (len : Nat) (y : Nat → Int) (k : Nat) (ok : Bool) : Prop := ok = true → 1 ≤ len ∧ (len : Int) ≤ lim ∧ ∀ j, j < k → y j < n

theorem okTo_start (n lim : Int) (len : Nat) (y : Nat → Int) : OkTo n lim len y 0 (decide (1 ≤ (len : Int)) && decide ((len : Int) ≤ lim)) := fun h => by
  simp only [Bool.and_eq_true, decide_eq_true_eq] at h
  exact ⟨by omega, h.2, fun j hj => absurd hj (Nat.not_lt_zero _)⟩

theorem okTo_bad (n lim : Int) (len : Nat) (y : Nat → Int) (k : Nat) : OkTo n lim len y k false := fun h => by cases h

theorem okTo_next {n lim : Int} {len : Nat} {y : Nat → Int} {k : Nat} {ok : Bool} (h : OkTo n lim len y k ok) (hy : y k < n) : OkTo n lim len y (k + 1) ok := fun e =>
  ⟨(h e).1, (h e).2.1, fun j hj => by
    by_cases e' : j = k
    · subst e'; exact hy
    · exact (h e).2.2 j (by omega)⟩

set_option maxHeartbeats 6400000 in
set_option maxRecDepth 100000 in
theorem read_walk (mm n lim : Int) (ga : Option Addr) (G c : Nat) (N : Nat → Bool) (L : Nat → Nat) (Z : Nat → Nat → Int) (xa : Option Addr) (xn : Bool) (m mc : Nat) (X : Nat → Int) (w : World) (hga : ga = none → G = 0)
    (hp : Parts w ga G N L Z) (hx : Sl w (.slice xa m mc) xn m X) :
    Calls Try.prog 8 #[.int .i64 mm, .int .i64 n, .int .i64 lim, .slice ga G c, .slice xa m mc] w fun e w' => e = .returned (.bool true) ∧ Below w.heap.size w w' := by
  have hnil := Try.nneq29
  go_enter Try.func8, Try.ntmps8
  go_wp2_with fail
  refine (bytesRead_any ga G c N L Z mm n lim xa m mc _ hp).mono ?_
  rintro e w1 ⟨⟨t, rfl⟩, rfl⟩
  cases t
  · go_wp2_with fail
    go_ret
    exact ⟨rfl, Below.refl _ _⟩
  go_wp2_with fail
  refine (partsBytes_any ga G c N L Z _ hp).mono ?_
  rintro e w1 ⟨z, rfl, hz, rfl⟩
  rcases hz with rfl | ⟨hz, hz1⟩
  · go_wp2_with fail
    go_ret
    exact ⟨rfl, Below.refl _ _⟩
  have hz0 : 0 ≤ z := by omega
  have HZ : Hid (z = 24 * (G : Int) + 8 * (sumTo L G : Int)) := hz
  clear hz
  by_cases hm1 : (131072 : Int) < (m : Int)
  · go_wp2_with fail
    go_ret
    exact ⟨rfl, Below.refl _ _⟩
  by_cases hm2 : (1048576 : Int) < z + 8 * (m : Int)
  · go_wp2_with fail
    go_ret
    exact ⟨rfl, Below.refl _ _⟩
  have hG : G ≤ 1048576 := by have := HZ.out; omega
  have hG' : G ≤ 43690 := by have := HZ.out; omega
  have hS : sumTo L G ≤ 1048576 := by have := HZ.out; omega
  have hm : m ≤ 1048576 := by omega
  have hL : ∀ r, r < G → L r ≤ 1048576 := fun r hr => by have := sumTo_le L hr; omega
  by_cases hmm0 : mm < 0
  · go_wp2_with fail
    go_ret
    exact ⟨rfl, Below.refl _ _⟩
  by_cases hmm1 : (65536 : Int) < mm
  · go_wp2_with fail
    go_ret
    exact ⟨rfl, Below.refl _ _⟩
  obtain ⟨M, rfl⟩ : ∃ M : Nat, mm = M := ⟨mm.toNat, by omega⟩
  have hM : M ≤ 65536 := by omega
  go_wp2_with fail
  refine (allIn_any ga G c N L Z m _ hG hL hp).mono ?_
  rintro e w1 ⟨⟨t, rfl, hin⟩, rfl⟩
  cases t
  · clear hin
    go_wp2_with fail
    go_ret
    exact ⟨rfl, Below.refl _ _⟩
  have HIN : Hid (∀ r, r < G → ∀ i, i < L r → 0 ≤ Z r i ∧ Z r i < m) := hin rfl
  clear hin
  go_wp2_with fail
  clear hm1 hm2 hz0 hz1 hmm0 hmm1 HZ
  go_loopg [12] m (fun g i wr => w1 = wr ∧ ∃ (k : Nat), k ≤ m ∧ g = m - k ∧ i = .int .i64 k ∧ ∀ q, q < k → 0 ≤ X q ∧ X q < (M : Int))
  case atStart => exact ⟨rfl, 0, Nat.zero_le _, rfl, rfl, fun q hq => absurd hq (Nat.not_lt_zero _)⟩
  case round =>
    obtain ⟨rfl, k, hk, rfl, rfl, hall⟩ := hrel
    have HX : Hid (∀ q, q < k → 0 ≤ X q ∧ X q < (M : Int)) := hall
    clear hall
    by_cases hlt : k < m
    · obtain ⟨A0, c0, e0, _, _, _, hzx⟩ := hx
      simp only [Value.slice.injEq, true_and] at e0
      obtain ⟨rfl, rfl⟩ := e0
      obtain ⟨xb, xo, rfl, hxc⟩ := hzx k hlt
      have hz1 : (k : Int) < (m : Int) := by omega
      clear hzx
      by_cases h0 : X k < 0
      · go_wp2_with fail
        go_ret
        exact ⟨rfl, Below.refl _ _⟩
      by_cases h1 : (M : Int) ≤ X k
      · go_wp2_with fail
        go_ret
        exact ⟨rfl, Below.refl _ _⟩
      go_wp2_with fail
      go_roundg (m - (k + 1))
      case measure => go_light; omega
      case rel =>
        go_light
        refine ⟨rfl, k + 1, by omega, rfl, by simp, fun q hq => ?_⟩
        by_cases e : q = k
        · subst e; omega
        · exact HX.out q (by omega)
    · have hz1 : ¬ (k : Int) < (m : Int) := by omega
      obtain rfl : m = k := by omega
      go_wp2_with fail
      refine (cloneParts_any ga G c N L Z _ hG hL hga hp).mono ?_
      rintro e w2 ⟨ga2, c2, rfl, hp2, hb2⟩
      go_wp2_with fail
      refine (cloneInts_any xa xn m mc X _ hm (hx.below hb2 (Nat.le_refl _))).mono ?_
      rintro e w3 ⟨xa3, c3, rfl, hx3, hb3⟩
      have hp3 := hp2.below hb3 (Nat.le_refl _)
      go_wp2_with fail
      refine (zcompositions_any ga2 G c2 N L Z xa3 xn m c3 X _ hG hS hp3 hx3 hm HIN.out).mono ?_
      rintro e w4 ⟨B, A, rfl, hb4, hB, hacc, hhop, hnamed, hsl⟩
      have hp4 := hp3.below hb4 (Nat.le_refl _)
      have hx4 := hx3.below hb4 (Nat.le_refl _)
      have hs2 := hb2.size
      have hs3 := hb3.size
      have hs4 := hb4.size
      have hbel : Below w1.heap.size w1 w4 := (hb2.trans (hb3.mono (by omega))).trans (hb4.mono (by omega))
      have hle : w1.heap.size ≤ w4.heap.size := by omega
      have HY : Hid (∀ r, r < G → ∀ i, i < L r → 0 ≤ X (Z r i).toNat ∧ X (Z r i).toNat < (M : Int)) := fun r hr i hi => by
        have := HIN.out r hr i hi
        exact HX.out _ (by omega)
      have hmk := run_make_row' (P := Try.prog) 22 29 (.slice none 0 0) 24 Try.underlying22 Try.info29 rfl .i64 .i64 (M + G) (by omega) (by omega)
      rw [show ((M + G : Nat) : Int) = (M : Int) + (G : Int) from by omega] at hmk
      clear hp hx hp2 hp3 hx3 hb2 hb3 hb4 hs2 hs3 hs4 hga hacc hhop hz1 hlt hk
      go_wp2_with fail
      clear hmk
      have h0 := allR_start w4 A L M G
      go_loopg [17] G (fun g i wr => ∃ (k : Nat), k ≤ G ∧ g = G - k ∧ i = .int .i64 k ∧ AllR w4 wr A L M G k)
      case atStart => exact ⟨0, Nat.zero_le _, rfl, rfl, h0⟩
      case round =>
        clear h0
        obtain ⟨k, hk, rfl, rfl, hI⟩ := hrel
        by_cases hlt : k < G
        · have hz1 : (k : Int) < (G : Int) := by omega
          have g1 : wr.cell? ⟨B + 2, k, none⟩ = some (.slice (A k) (L k) (L k)) := by rw [hI.below.cell (p := ⟨B + 2, k, none⟩) hnamed.lt]; exact hnamed.cell hlt
          have g2 := hI.row.cell (i := M + k) (by omega)
          have g3 : wr.frozen? ⟨w4.heap.size, M + k, none⟩ = false := hI.row.frozen _
          rw [if_neg (by omega), Nat.add_sub_cancel_left, if_neg (Nat.lt_irrefl _)] at g2
          have ht : ((M : Int) + (k : Int)).toNat = M + k := by omega
          have hz2 : (M : Int) + (k : Int) < (M : Int) + (G : Int) := by omega
          have hst := allR_step hI
          clear hI
          go_wp2_with fail
          go_roundg (G - (k + 1))
          case measure => go_light; omega
          case rel => go_light; exact ⟨k + 1, by omega, rfl, by simp, hst⟩
        · have hz1 : ¬ (k : Int) < (G : Int) := by omega
          obtain rfl : G = k := by omega
          have hpa := hI.parts (Y := fun j k => X (Z j k).toNat) hsl
          have hp5 := hp4.below hI.below (Nat.le_refl _)
          have hx5 := hx4.below hI.below (Nat.le_refl _)
          have hsz5 := hI.below.size
          have hbel5 : Below w1.heap.size w1 wr := hbel.trans (hI.below.mono hle)
          clear hI hp4 hx4 hbel hsl hnamed hlt hk hz1
          go_wp2_with fail
          refine (zownLiterals_any (some ⟨w4.heap.size, 0, none⟩) (M + G) (M + G) (allN M) (allL M L) (allZ M fun j k => X (Z j k).toNat) n lim _ (by omega) (fun r hr => ?_) hpa (all_in HY.out) (fun i hi k hk l h => ?_)).mono ?_
          · simp only [allL]
            split
            · exact Nat.zero_le _
            · exact hL _ (by omega)
          · have := all_bound HY.out hL i hi k hk l h
            omega
          rintro e w5 ⟨lb, f, rfl, hb5, hrow5, hosl⟩
          have hp6 := hp5.below hb5 (Nat.le_refl _)
          have hx6 := hx5.below hb5 (Nat.le_refl _)
          have hs5 := hb5.size
          have hbel6 : Below w1.heap.size w1 w5 := hbel5.trans (hb5.mono (by omega))
          have hle6 : w1.heap.size ≤ w5.heap.size := by omega
          clear hp5 hx5 hb5 hbel5 hs5 hsz5 hpa hle
          go_wp2_with fail
          go_loopg [19] M (fun g i wr => w5 = wr ∧ ∃ (k : Nat), k ≤ M ∧ g = M - k ∧ i = .int .i64 k)
          case atStart => exact ⟨rfl, 0, Nat.zero_le _, rfl, rfl⟩
          case round =>
            obtain ⟨rfl, k, hk, rfl, rfl⟩ := hrel
            by_cases hlt : k < M
            · have hz1 : (k : Int) < (M : Int) := by omega
              have hz1' : (k : Int) < (M : Int) + (G : Int) := by omega
              have g2 : w5.cell? ⟨lb, k, none⟩ = some (f k) := hrow5.cell (by omega)
              have hd := hosl k (by omega)
              by_cases hn : (k : Int) < n
              · rw [all_lit hlt (by omega), if_pos hn] at hd
                obtain ⟨Aq, cq, ef, _, _, _, hzq⟩ := hd
                obtain ⟨bq, oq, rfl, hcq⟩ := hzq 0 (by simp)
                rw [ef] at g2
                simp only [Option.getD_some, List.length_cons, List.length_nil, Nat.zero_add, Nat.add_zero, List.getD_cons_zero] at g2 hcq
                clear hzq ef
                go_wp2_with fail
                go_roundg (M - (k + 1))
                case measure => go_light; omega
                case rel => go_light; exact ⟨rfl, k + 1, by omega, rfl, by simp⟩
              · rw [all_lit hlt (by omega), if_neg hn] at hd
                rw [hd.none_is] at g2
                clear hd
                go_wp2_with fail
                go_roundg (M - (k + 1))
                case measure => go_light; omega
                case rel => go_light; exact ⟨rfl, k + 1, by omega, rfl, by simp⟩
            · have hz1 : ¬ (k : Int) < (M : Int) := by omega
              clear hlt hk
              go_wp2_with fail
              clear hz1
              go_loopg [20] G (fun g i wr => ∃ (k : Nat), k ≤ G ∧ g = G - k ∧ i = .int .i64 k ∧ Below w5.heap.size w5 wr)
              case atStart => exact ⟨0, Nat.zero_le _, rfl, rfl, Below.refl _ _⟩
              case round =>
                obtain ⟨i, hik, rfl, rfl, hbr⟩ := hrel
                by_cases hlt : i < G
                · obtain ⟨gb, go, v, rfl, hc, A0, cc, rfl, _, _, _, hzp⟩ := hp6 i hlt
                  obtain ⟨A2, c2', e2, _, _, _, hzx⟩ := id hx6
                  simp only [Value.slice.injEq, true_and] at e2
                  obtain ⟨rfl, rfl⟩ := e2
                  have HZP : Hid (∀ k, k < L i → ∃ b o, A0 = some ⟨b, o, none⟩ ∧ w5.cell? ⟨b, o + k, none⟩ = some (.int .i64 (Z i k))) := hzp
                  have HZX : Hid (∀ k, k < m → ∃ b o, xa3 = some ⟨b, o, none⟩ ∧ w5.cell? ⟨b, o + k, none⟩ = some (.int .i64 (X k))) := hzx
                  have hz1 : (i : Int) < (G : Int) := by omega
                  have hz1' : (M : Int) + (i : Int) < (M : Int) + (G : Int) := by omega
                  have ht : ((M : Int) + (i : Int)).toNat = M + i := by omega
                  have hLi := hL i hlt
                  have g1 : wr.cell? ⟨gb, go + i, none⟩ = some (.slice A0 (L i) cc) := by rw [hbr.cell (p := ⟨gb, go + i, none⟩) (World.block_lt_of_cell? _ _ hc)]; exact hc
                  have g2 : wr.cell? ⟨lb, M + i, none⟩ = some (f (M + i)) := by rw [hbr.cell (p := ⟨lb, M + i, none⟩) hrow5.lt]; exact hrow5.cell (by omega)
                  have hd := hosl (M + i) (by omega)
                  clear hc hzp hzx
                  cases hTi : ownTab n lim (allN M) (allL M L) (allZ M fun j k => X (Z j k).toNat) (M + G) (M + i) with
                  | none =>
                    have HNO : Hid (¬ (1 ≤ L i ∧ (L i : Int) ≤ lim ∧ ∀ k, k < L i → X (Z i k).toNat < n)) := all_none HY.out hlt hTi
                    rw [hTi] at hd
                    rw [hd.none_is] at g2
                    clear hd hTi
                    by_cases hb1 : (1 : Int) ≤ (L i : Int)
                    all_goals
                      go_wp2_with fail
                      clear g1 g2
                      go_loopg [23, 24] (L i) (fun g s j wx => wr = wx ∧ ∃ (k : Nat) (ok : Bool), k ≤ L i ∧ g = L i - k ∧ j = .int .i64 k ∧ s = .bool ok ∧ OkTo n lim (L i) (fun k => X (Z i k).toNat) k ok)
                      case atStart => exact ⟨rfl, 0, _, Nat.zero_le _, rfl, rfl, rfl, by first | exact okTo_bad _ _ _ _ _ | exact fun h => ⟨by omega, by simpa using h, fun j hj => absurd hj (Nat.not_lt_zero _)⟩⟩
                      case round =>
                        obtain ⟨rfl, k, ok, hk, rfl, rfl, rfl, hok⟩ := hrel
                        by_cases hkl : k < L i
                        · obtain ⟨pb, po, rfl, hpc⟩ := HZP.out k hkl
                          have hinj := HIN.out i hlt k hkl
                          obtain ⟨q, hq⟩ : ∃ q : Nat, Z i k = q := ⟨(Z i k).toNat, by omega⟩
                          have hqm : q < m := by omega
                          obtain ⟨xb, xo, rfl, hxc⟩ := HZX.out q hqm
                          have t3 : wr.cell? ⟨pb, po + k, none⟩ = some (.int .i64 (q : Int)) := by rw [hbr.cell (p := ⟨pb, po + k, none⟩) (World.block_lt_of_cell? _ _ hpc), hpc, hq]
                          have t4 : wr.cell? ⟨xb, xo + q, none⟩ = some (.int .i64 (X q)) := by rw [hbr.cell (p := ⟨xb, xo + q, none⟩) (World.block_lt_of_cell? _ _ hxc)]; exact hxc
                          have hz2 : (k : Int) < (L i : Int) := by omega
                          have hz3 : (q : Int) < (m : Int) := by omega
                          have HQ : Hid (X (Z i k).toNat = X q) := by show _ = _; rw [hq, Int.toNat_natCast]
                          clear hpc hinj hq hxc
                          by_cases hn : n ≤ X q
                          · go_wp2_with fail
                            go_roundg (L i - (k + 1))
                            case measure => go_light; omega
                            case rel => go_light; exact ⟨rfl, k + 1, false, by omega, rfl, by simp, rfl, okTo_bad _ _ _ _ _⟩
                          · go_wp2_with fail
                            go_roundg (L i - (k + 1))
                            case measure => go_light; omega
                            case rel => go_light; exact ⟨rfl, k + 1, ok, by omega, rfl, by simp, rfl, okTo_next hok (by show X (Z i k).toNat < n; rw [HQ.out]; omega)⟩
                        · have hz2 : ¬ (k : Int) < (L i : Int) := by omega
                          obtain rfl : ok = false := by
                            cases ok with
                            | false => rfl
                            | true =>
                              obtain rfl : L i = k := by omega
                              exact absurd (hok rfl) HNO.out
                          clear hok
                          go_wp2_with fail
                          go_roundg (G - (i + 1))
                          case measure => go_light; omega
                          case rel => go_light; exact ⟨i + 1, by omega, rfl, by simp, hbr⟩
                  | some l =>
                    obtain ⟨s1, s2, s3, rfl⟩ := all_some HY.out hlt hTi
                    have HOK : Hid (∀ k, k < L i → X (Z i k).toNat < n) := s3
                    have hy1 : (1 : Int) ≤ (L i : Int) := by omega
                    rw [hTi] at hd
                    obtain ⟨Aq, cq, ef, _, _, _, hzq⟩ := hd
                    simp only [Option.getD_some, List.length_map, List.length_range] at ef hzq
                    obtain ⟨bq, oq, rfl, _⟩ := hzq 0 (by omega)
                    rw [ef] at g2
                    have HQ : Hid (∀ k, k < L i → w5.cell? ⟨bq, oq + k, none⟩ = some (.int .i64 (X (Z i k).toNat))) := fun k hk => by
                      obtain ⟨b', o', e', hc'⟩ := hzq k hk
                      simp only [Option.some.injEq, Addr.mk.injEq, and_true] at e'
                      obtain ⟨rfl, rfl⟩ := e'
                      rw [hc']
                      simp [hk]
                    clear hzq ef hTi s3
                    go_wp2_with fail
                    clear g1 g2
                    go_loopg [23, 24] (L i) (fun g s j wx => wr = wx ∧ ∃ (k : Nat), k ≤ L i ∧ g = L i - k ∧ j = .int .i64 k ∧ s = .bool true)
                    case atStart => exact ⟨rfl, 0, Nat.zero_le _, rfl, rfl, rfl⟩
                    case round =>
                      obtain ⟨rfl, k, hk, rfl, rfl, rfl⟩ := hrel
                      by_cases hkl : k < L i
                      · obtain ⟨pb, po, rfl, hpc⟩ := HZP.out k hkl
                        have hinj := HIN.out i hlt k hkl
                        obtain ⟨q, hq⟩ : ∃ q : Nat, Z i k = q := ⟨(Z i k).toNat, by omega⟩
                        have hqm : q < m := by omega
                        obtain ⟨xb, xo, rfl, hxc⟩ := HZX.out q hqm
                        have t3 : wr.cell? ⟨pb, po + k, none⟩ = some (.int .i64 (q : Int)) := by rw [hbr.cell (p := ⟨pb, po + k, none⟩) (World.block_lt_of_cell? _ _ hpc), hpc, hq]
                        have t4 : wr.cell? ⟨xb, xo + q, none⟩ = some (.int .i64 (X q)) := by rw [hbr.cell (p := ⟨xb, xo + q, none⟩) (World.block_lt_of_cell? _ _ hxc)]; exact hxc
                        have hz2 : (k : Int) < (L i : Int) := by omega
                        have hz3 : (q : Int) < (m : Int) := by omega
                        have hn : X q < n := by have := HOK.out k hkl; rwa [hq, Int.toNat_natCast] at this
                        clear hpc hinj hq hxc
                        go_wp2_with fail
                        go_roundg (L i - (k + 1))
                        case measure => go_light; omega
                        case rel => go_light; exact ⟨rfl, k + 1, by omega, rfl, by simp, rfl⟩
                      · have hz2 : ¬ (k : Int) < (L i : Int) := by omega
                        clear hkl hk
                        go_wp2_with fail
                        clear hz2
                        go_loopg [25] (L i) (fun g j wx => ∃ (k : Nat), k ≤ L i ∧ g = L i - k ∧ j = .int .i64 k ∧ Below w5.heap.size w5 wx)
                        case atStart => exact ⟨0, Nat.zero_le _, rfl, rfl, hbr⟩
                        case round =>
                          clear hbr
                          obtain ⟨j, hj, rfl, rfl, hbr⟩ := hrel
                          by_cases hjl : j < L i
                          · obtain ⟨pb, po, rfl, hpc⟩ := HZP.out j hjl
                            have hinj := HIN.out i hlt j hjl
                            obtain ⟨q, hq⟩ : ∃ q : Nat, Z i j = q := ⟨(Z i j).toNat, by omega⟩
                            have hqm : q < m := by omega
                            obtain ⟨xb, xo, rfl, hxc⟩ := HZX.out q hqm
                            have hlc := HQ.out j hjl
                            have t2 : wr.cell? ⟨bq, oq + j, none⟩ = some (.int .i64 (X q)) := by rw [hbr.cell (p := ⟨bq, oq + j, none⟩) (World.block_lt_of_cell? _ _ hlc), hlc, hq, Int.toNat_natCast]
                            have t3 : wr.cell? ⟨pb, po + j, none⟩ = some (.int .i64 (q : Int)) := by rw [hbr.cell (p := ⟨pb, po + j, none⟩) (World.block_lt_of_cell? _ _ hpc), hpc, hq]
                            have t4 : wr.cell? ⟨xb, xo + q, none⟩ = some (.int .i64 (X q)) := by rw [hbr.cell (p := ⟨xb, xo + q, none⟩) (World.block_lt_of_cell? _ _ hxc)]; exact hxc
                            have hz2 : (j : Int) < (L i : Int) := by omega
                            have hz3 : (q : Int) < (m : Int) := by omega
                            clear hpc hinj hq hxc hlc
                            go_wp2_with fail
                            go_quiet (fail)
                            go_wp2_with fail
                            go_roundg (L i - (j + 1))
                            case measure => go_light; omega
                            case rel => go_light; exact ⟨j + 1, by omega, rfl, by simp, below_drewN hbr _⟩
                          · have hz2 : ¬ (j : Int) < (L i : Int) := by omega
                            go_wp2_with fail
                            go_roundg (G - (i + 1))
                            case measure => go_light; omega
                            case rel => go_light; exact ⟨i + 1, by omega, rfl, by simp, hbr⟩
                · have hz1 : ¬ (i : Int) < (G : Int) := by omega
                  go_wp2_with fail
                  go_ret
                  exact ⟨rfl, hbel6.trans (hbr.mono hle6)⟩
end Go.Proofs.Qxb6600792a
