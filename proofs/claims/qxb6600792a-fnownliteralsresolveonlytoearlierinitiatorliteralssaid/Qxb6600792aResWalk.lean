import Derived.Test.Qxb6600792aReads
import Derived.Test.Qxb6600792aClone
import Derived.Test.Qxb6600792aZOwn
import Derived.Test.Qxb6600792aTree
namespace Go.Proofs.Qxb6600792a
open Go.RowKit

theorem Try.nnil29 : ∀ (w : World) (a : Option Addr) (n c n' c' : Nat), (binOp .neq 29 (.slice a n c) (.slice none n' c')).run Try.prog w = .ok (.bool (!a.isNone)) w := fun w a n c n' c' => run_neq_slice_nil_any w 29 3 a n c n' c' Try.underlying29

set_option maxHeartbeats 3200000 in
set_option maxRecDepth 100000 in
theorem res_walk (ga : Option Addr) (G c : Nat) (N : Nat → Bool) (L : Nat → Nat) (Z : Nat → Nat → Int) (n lim : Int) (w : World) (hga : ga = none → G = 0) (hp : Parts w ga G N L Z) :
    Calls Try.prog 4 #[.slice ga G c, .int .i64 n, .int .i64 lim] w fun e w' => e = .returned (.bool true) ∧ Below w.heap.size w w' := by
  have hnil := Try.nil29
  have hnnil := Try.nnil29
  go_enter Try.func4, Try.ntmps4
  go_wp2_with fail
  refine (bytesResolve_any ga G c N L Z n lim _ hp).mono ?_
  rintro e w1 ⟨⟨t, rfl⟩, rfl⟩
  cases t
  · go_wp2_with fail
    go_ret
    exact ⟨rfl, Below.refl _ _⟩
  go_wp2_with fail
  refine (partsBytes_any ga G c N L Z _ hp).mono ?_
  rintro e w1 ⟨z, rfl, hz, rfl⟩
  rcases hz with rfl | ⟨hz, hz1⟩
  · go_wp2_with fail
    go_ret
    exact ⟨rfl, Below.refl _ _⟩
  have hz0 : 0 ≤ z := by omega
  have hG : G ≤ 1048576 := by omega
  have hS : sumTo L G ≤ 1048576 := by omega
  have hL : ∀ r, r < G → L r ≤ 1048576 := fun r hr => by have := sumTo_le L hr; omega
  clear hz
  go_wp2_with fail
  refine (allIn_any ga G c N L Z G _ hG hL hp).mono ?_
  rintro e w1 ⟨⟨t, rfl, hin⟩, rfl⟩
  cases t
  · clear hin
    go_wp2_with fail
    go_ret
    exact ⟨rfl, Below.refl _ _⟩
  have HIN : Hid (∀ r, r < G → ∀ i, i < L r → 0 ≤ Z r i ∧ Z r i < G) := hin rfl
  clear hin
  go_wp2_with fail
  refine (tree_any ga G c N L Z _ hG hL hp HIN.out).mono ?_
  rintro e w2 ⟨⟨t, rfl, htr⟩, hb2⟩
  have hp2 := hp.below hb2 (Nat.le_refl _)
  cases t
  · clear htr
    go_wp2_with fail
    go_ret
    exact ⟨rfl, hb2⟩
  have HB : Hid (∀ i, i < G → ∀ k, k ≤ L i → ∀ l, accRow (ownTab n lim N L Z i) lim (Z i) k = some l → l.length ≤ 4194304) := fun i hi k hk l h => by
    have := acc_bound (fun r hr k hk => (HIN.out r hr k hk).1) (htr rfl) hi hk h
    omega
  clear htr
  go_wp2_with fail
  refine (cloneParts_any ga G c N L Z _ hG hL hga hp2).mono ?_
  rintro e w3 ⟨ga3, c3, rfl, hp3, hb3⟩
  go_wp2_with fail
  refine (zownLiterals_any ga3 G c3 N L Z n lim _ hG hL hp3 HIN.out HB.out).mono ?_
  rintro e w4 ⟨lb, f, rfl, hb4, hrow, hosl⟩
  have hp4 := hp3.below hb4 (Nat.le_refl _)
  have hs2 := hb2.size
  have hs3 := hb3.size
  have hbel : Below w1.heap.size w1 w4 := (hb2.trans (hb3.mono (by omega))).trans (hb4.mono (by omega))
  clear hp hp2 hp3 hb2 hb3 hb4 hs2 hs3 hga hz0 hz1
  go_wp2_with fail
  go_loopg [8] G (fun g i wr => w4 = wr ∧ ∃ (k : Nat), k ≤ G ∧ g = G - k ∧ i = .int .i64 k)
  case atStart => exact ⟨rfl, 0, Nat.zero_le _, rfl, rfl⟩
  case round =>
    obtain ⟨rfl, i, hik, rfl, rfl⟩ := hrel
    by_cases hlt : i < G
    · obtain ⟨gb, go, v, rfl, hc, hs⟩ := hp4 i hlt
      obtain ⟨A, cc, rfl, hNi, _, hcc, hz⟩ := hs
      have hz1 : (i : Int) < (G : Int) := by omega
      have hLi := hL i hlt
      have g2 : w4.cell? ⟨lb, i, none⟩ = some (f i) := hrow.cell hlt
      have hd := hosl i hlt
      cases A with
      | none =>
        have HNi : Hid (N i = true) := hNi.symm
        by_cases hn : (i : Int) < n
        · rw [own_lit hlt HNi.out, if_pos hn] at hd
          obtain ⟨Aq, cq, ef, _, _, _, hzq⟩ := hd
          obtain ⟨bq, oq, rfl, hcq⟩ := hzq 0 (by simp)
          rw [ef] at g2
          simp only [Option.getD_some, List.length_cons, List.length_nil, Nat.zero_add, Nat.add_zero, List.getD_cons_zero] at g2 hcq
          clear hzq ef hz hNi
          go_wp2_with fail
          go_roundg (G - (i + 1))
          case measure => go_light; omega
          case rel => go_light; exact ⟨rfl, i + 1, by omega, rfl, by simp⟩
        · rw [own_lit hlt HNi.out, if_neg hn] at hd
          rw [hd.none_is] at g2
          clear hd hz hNi
          go_wp2_with fail
          go_roundg (G - (i + 1))
          case measure => go_light; omega
          case rel => go_light; exact ⟨rfl, i + 1, by omega, rfl, by simp⟩
      | some a =>
        have HNi : Hid (N i = false) := hNi.symm
        have HZ : Hid (∀ k, k < L i → ∃ b o, (some a : Option Addr) = some ⟨b, o, none⟩ ∧ w4.cell? ⟨b, o + k, none⟩ = some (.int .i64 (Z i k))) := hz
        clear hNi hz hcc
        cases hTi : ownTab n lim N L Z G i with
        | none =>
          rw [hTi] at hd
          rw [hd.none_is] at g2
          clear hd hTi
          go_wp2_with fail
          go_loopg [11, 12] (L i) (fun g s j wr => w4 = wr ∧ ∃ (k : Nat) (rf : Bool), k ≤ L i ∧ g = L i - k ∧ j = .int .i64 k ∧ s = .bool rf)
          case atStart => exact ⟨rfl, 0, _, Nat.zero_le _, rfl, rfl, rfl⟩
          case round =>
            obtain ⟨rfl, k, rf, hk, rfl, rfl, rfl⟩ := hrel
            by_cases hkl : k < L i
            · obtain ⟨b, o, ea, hcell⟩ := HZ.out k hkl
              obtain rfl := Option.some.inj ea
              have hz2 : (k : Int) < (L i : Int) := by omega
              clear ea
              by_cases hge : (i : Int) ≤ Z i k
              all_goals
                go_wp2_with fail
                go_roundg (L i - (k + 1))
                case measure => go_light; omega
                case rel => go_light; exact ⟨rfl, k + 1, _, by omega, rfl, by simp, rfl⟩
            · have hz2 : ¬ (k : Int) < (L i : Int) := by omega
              cases rf
              all_goals
                go_wp2_with fail
                go_roundg (G - (i + 1))
                case measure => go_light; omega
                case rel => go_light; exact ⟨rfl, i + 1, by omega, rfl, by simp⟩
        | some l =>
          rw [hTi] at hd
          obtain ⟨hl0, hl1⟩ := own_bounds hlt HNi.out hTi
          have hlm : l.length ≤ 4194304 := own_len (by decide) HB.out (Nat.le_refl _) hTi
          have hLi0 : ((L i : Int) == 0) = false := by
            have : L i ≠ 0 := fun e => by rw [own_empty hlt HNi.out e] at hTi; cases hTi
            rw [beq_eq_false_iff_ne]; omega
          have HE : Hid (∀ k, k < L i → Z i k < (i : Int)) := fun k hk => by
            apply Int.lt_of_not_ge
            intro hge
            rw [own_late hlt HNi.out hk hge] at hTi
            cases hTi
          have HM : Hid (∀ e ∈ l, 0 ≤ e ∧ e < (i : Int) ∧ e < n ∧ N e.toNat = true) := fun e he => by
            have hTi' := hTi
            rw [ownTab_lt hlt, ← ownTab_at] at hTi'
            obtain ⟨h1, _, h3, h4, h5⟩ := own_entries i hTi' e he
            exact ⟨h1, h3 HNi.out, h4, h5⟩
          obtain ⟨Aq, cq, ef, _, _, _, hzq⟩ := hd
          simp only [Option.getD_some] at ef hzq
          obtain ⟨bq, oq, rfl, _⟩ := hzq 0 hl0
          rw [ef] at g2
          have HQ : Hid (∀ k, k < l.length → w4.cell? ⟨bq, oq + k, none⟩ = some (.int .i64 (l.getD k 0))) := fun k hk => by
            obtain ⟨b', o', e', hc'⟩ := hzq k hk
            simp only [Option.some.injEq, Addr.mk.injEq, and_true] at e'
            obtain ⟨rfl, rfl⟩ := e'
            exact hc'
          clear hzq ef hTi
          go_wp2_with fail
          go_loopg [11, 12] (L i) (fun g s j wr => w4 = wr ∧ ∃ (k : Nat), k ≤ L i ∧ g = L i - k ∧ j = .int .i64 k ∧ s = .bool false)
          case atStart => exact ⟨rfl, 0, Nat.zero_le _, rfl, rfl, rfl⟩
          case round =>
            obtain ⟨rfl, k, hk, rfl, rfl, rfl⟩ := hrel
            by_cases hkl : k < L i
            · obtain ⟨b, o, ea, hcell⟩ := HZ.out k hkl
              obtain rfl := Option.some.inj ea
              have hz2 : (k : Int) < (L i : Int) := by omega
              have hge : Z i k < (i : Int) := HE.out k hkl
              clear ea
              go_wp2_with fail
              go_roundg (L i - (k + 1))
              case measure => go_light; omega
              case rel => go_light; exact ⟨rfl, k + 1, by omega, rfl, by simp, rfl⟩
            · have hz2 : ¬ (k : Int) < (L i : Int) := by omega
              have hl0' : ¬ (l.length : Int) < 1 := by omega
              go_wp2_with fail
              go_loopg [13] l.length (fun g j wr => w4 = wr ∧ ∃ (k : Nat), k ≤ l.length ∧ g = l.length - k ∧ j = .int .i64 k)
              case atStart => exact ⟨rfl, 0, Nat.zero_le _, rfl, rfl⟩
              case round =>
                obtain ⟨rfl, j, hj, rfl, rfl⟩ := hrel
                by_cases hjl : j < l.length
                · have hcj := HQ.out j hjl
                  have hmem : l.getD j 0 ∈ l := by
                    rw [List.getD_eq_getElem?_getD, List.getElem?_eq_getElem hjl]
                    exact List.getElem_mem hjl
                  obtain ⟨m1, m2, m3, m4⟩ := HM.out _ hmem
                  obtain ⟨q, hq⟩ : ∃ q : Nat, l.getD j 0 = q := ⟨(l.getD j 0).toNat, by omega⟩
                  rw [hq] at hcj m1 m2 m3 m4
                  rw [Int.toNat_natCast] at m4
                  have hqG : q < G := by omega
                  obtain ⟨gb', go', v', e', hc', hs'⟩ := hp4 q hqG
                  simp only [Option.some.injEq, Addr.mk.injEq, and_true] at e'
                  obtain ⟨rfl, rfl⟩ := e'
                  obtain ⟨A', cc', rfl, hN', _⟩ := hs'
                  rw [m4] at hN'
                  have hA' : A' = none := by cases A' with | none => rfl | some a => cases hN'
                  subst hA'
                  have hz3 : (j : Int) < (l.length : Int) := by omega
                  have hz4 : (q : Int) < (G : Int) := by omega
                  have hz5 : ¬ n ≤ (q : Int) := by omega
                  have hz6 : ¬ (i : Int) ≤ (q : Int) := by omega
                  clear hmem hq m4 hN'
                  go_wp2_with fail
                  go_roundg (l.length - (j + 1))
                  case measure => go_light; omega
                  case rel => go_light; exact ⟨rfl, j + 1, by omega, rfl, by simp⟩
                · have hz3 : ¬ (j : Int) < (l.length : Int) := by omega
                  go_wp2_with fail
                  go_roundg (G - (i + 1))
                  case measure => go_light; omega
                  case rel => go_light; exact ⟨rfl, i + 1, by omega, rfl, by simp⟩
    · have hz1 : ¬ (i : Int) < (G : Int) := by omega
      go_wp2_with fail
      go_ret
      exact ⟨rfl, hbel⟩
end Go.Proofs.Qxb6600792a
