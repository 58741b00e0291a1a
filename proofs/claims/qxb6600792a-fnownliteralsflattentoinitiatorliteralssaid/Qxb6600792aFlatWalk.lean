import Derived.Test.Qxb6600792aReads
import Derived.Test.Qxb6600792aClone
import Derived.Test.Qxb6600792aZOwn
import Derived.Test.Qxb6600792aTree
import Derived.Test.Qxb6600792aSame
import Derived.Test.Qxb6600792aExp
import Derived.Deep.RegionWith
namespace Go.Proofs.Qxb6600792a
open Go.RowKit

theorem OSl.below {w w' : World} {v : Value} {o : Option (List Int)} (h : OSl w v o) (hb : Below w.heap.size w w') : OSl w' v o := Sl.below h hb (Nat.le_refl _)

/-- The two contracts of the law's round, at one entry of the table. -/
theorem round_pair {w4 : World} {ga : Option Addr} {G c : Nat} {N : Nat → Bool} {L : Nat → Nat} {Z : Nat → Nat → Int} {n lim : Int} {i : Nat} (hG : G ≤ 1048576) (hL : ∀ r, r < G → L r ≤ 1048576) (hp : Parts w4 ga G N L Z)
    (hin : ∀ r, r < G → ∀ i, i < L r → 0 ≤ Z r i ∧ Z r i < G) (hsz : ∀ r, r < G → szTab L Z G r ≤ 2097152) (hiG : i < G) {v : Value} (hv : OSl w4 v (ownTab n lim N L Z G i)) :
    ∃ (A : Option Addr) (l c1 : Nat) (Rd : World → Value → Prop), v = .slice A l c1 ∧ Rd w4 (.slice A l c1) ∧ (∀ W W' u, Rd W u → Below W.heap.size W W' → Rd W' u) ∧
      (∀ W, Below w4.heap.size w4 W → Calls Try.prog 16 #[.slice ga G c, .int .i64 n, .int .i64 lim, .int .i64 (i : Int)] W fun e W' => ∃ A' c', e = .returned (.slice A' l c') ∧ Rd W' (.slice A' l c') ∧ Below W.heap.size W W') ∧
      (∀ W A c A' c', Rd W (.slice A l c) → Rd W (.slice A' l c') → Calls Try.prog 15 #[.slice A l c, .slice A' l c'] W fun e W' => e = .returned (.bool true) ∧ Below W.heap.size W W') := by
  have hlen : ((ownTab n lim N L Z G i).getD []).length ≤ 4194304 := by
    cases h : ownTab n lim N L Z G i with
    | none => exact Nat.zero_le _
    | some x =>
      have h1 := (own_le_sz (fun r hr k hk => (hin r hr k hk).1) G (Nat.le_refl _) i x h).2
      have h2 := hsz i hiG
      show x.length ≤ _
      omega
  obtain ⟨A, c1, rfl, r⟩ := id hv
  refine ⟨A, _, c1, fun W u => OSl W u (ownTab n lim N L Z G i), rfl, hv, fun W W' u h hb => h.below hb, fun W hb => ?_, fun W A c A' c' h h' => ?_⟩
  · exact (expand_any ga G c N L Z n lim i W hG hL (hp.below hb (Nat.le_refl _)) hin hsz hiG).mono fun e W' h => h
  · exact same_any A A' _ _ c c' _ W hlen h h'

set_option maxHeartbeats 3200000 in
set_option maxRecDepth 100000 in
theorem flat_walk (ga : Option Addr) (G c : Nat) (N : Nat → Bool) (L : Nat → Nat) (Z : Nat → Nat → Int) (n lim : Int) (w : World) (hga : ga = none → G = 0) (hp : Parts w ga G N L Z) :
    Calls Try.prog 3 #[.slice ga G c, .int .i64 n, .int .i64 lim] w fun e w' => e = .returned (.bool true) ∧ Below w.heap.size w w' := by
  go_enter Try.func3, Try.ntmps3
  go_wp2_with fail
  refine (bytesFlatten_any ga G c N L Z n lim _ hp).mono ?_
  rintro e w1 ⟨⟨t, rfl⟩, rfl⟩
  cases t
  · go_wp2_with fail
    go_ret
    exact ⟨rfl, Below.refl _ _⟩
  go_wp2_with fail
  refine (partsBytes_any ga G c N L Z _ hp).mono ?_
  rintro e w1 ⟨z, rfl, hz, rfl⟩
  rcases hz with rfl | ⟨hz, hz1⟩
  · go_wp2_with fail
    go_ret
    exact ⟨rfl, Below.refl _ _⟩
  have hz0 : 0 ≤ z := by omega
  have hG : G ≤ 1048576 := by omega
  have hS : sumTo L G ≤ 1048576 := by omega
  have hL : ∀ r, r < G → L r ≤ 1048576 := fun r hr => by have := sumTo_le L hr; omega
  clear hz
  go_wp2_with fail
  refine (allIn_any ga G c N L Z G _ hG hL hp).mono ?_
  rintro e w1 ⟨⟨t, rfl, hin⟩, rfl⟩
  cases t
  · clear hin
    go_wp2_with fail
    go_ret
    exact ⟨rfl, Below.refl _ _⟩
  have HIN : Hid (∀ r, r < G → ∀ i, i < L r → 0 ≤ Z r i ∧ Z r i < G) := hin rfl
  clear hin
  go_wp2_with fail
  refine (tree_any ga G c N L Z _ hG hL hp HIN.out).mono ?_
  rintro e w2 ⟨⟨t, rfl, htr⟩, hb2⟩
  have hp2 := hp.below hb2 (Nat.le_refl _)
  cases t
  · clear htr
    go_wp2_with fail
    go_ret
    exact ⟨rfl, hb2⟩
  have HSZ : Hid (∀ r, r < G → szTab L Z G r ≤ 2097152) := htr rfl
  have HB : Hid (∀ i, i < G → ∀ k, k ≤ L i → ∀ l, accRow (ownTab n lim N L Z i) lim (Z i) k = some l → l.length ≤ 4194304) := fun i hi k hk l h => by
    have := acc_bound (fun r hr k hk => (HIN.out r hr k hk).1) HSZ.out hi hk h
    omega
  clear htr
  go_wp2_with fail
  refine (cloneParts_any ga G c N L Z _ hG hL hga hp2).mono ?_
  rintro e w3 ⟨ga3, c3, rfl, hp3, hb3⟩
  go_wp2_with fail
  refine (zownLiterals_any ga3 G c3 N L Z n lim _ hG hL hp3 HIN.out HB.out).mono ?_
  rintro e w4 ⟨lb, f, rfl, hb4, hrow, hosl⟩
  have hp4 := hp3.below hb4 (Nat.le_refl _)
  have hs2 := hb2.size
  have hs3 := hb3.size
  have hs4 := hb4.size
  have hbel : Below w1.heap.size w1 w4 := (hb2.trans (hb3.mono (by omega))).trans (hb4.mono (by omega))
  have hle : w1.heap.size ≤ w4.heap.size := by omega
  clear hp hp2 hp3 hb2 hb3 hb4 hs2 hs3 hs4 hga hz0 hz1 HB
  go_wp2_with fail
  go_loopg [8] G (fun g i wr => ∃ (k : Nat), k ≤ G ∧ g = G - k ∧ i = .int .i64 k ∧ Below w4.heap.size w4 wr)
  case atStart => exact ⟨0, Nat.zero_le _, rfl, rfl, Below.refl _ _⟩
  case round =>
    obtain ⟨i, hik, rfl, rfl, hbr⟩ := hrel
    by_cases hlt : i < G
    · obtain ⟨A, l, c1, Rd, ev, hR0, hkeep, hE, hSm⟩ := round_pair (c := c3) hG hL hp4 HIN.out HSZ.out hlt (hosl i hlt)
      have g1 : wr.cell? ⟨lb, i, none⟩ = some (.slice A l c1) := by rw [hbr.cell (p := ⟨lb, i, none⟩) hrow.lt, hrow.cell hlt, ev]
      have hR1 : Rd wr (.slice A l c1) := hkeep _ _ _ hR0 hbr
      have HK : Hid (∀ W W' u, Rd W u → Below W.heap.size W W' → Rd W' u) := hkeep
      have HE : Hid (∀ W, Below w4.heap.size w4 W → Calls Try.prog 16 #[.slice ga3 G c3, .int .i64 n, .int .i64 lim, .int .i64 (i : Int)] W fun e W' => ∃ A' c', e = .returned (.slice A' l c') ∧ Rd W' (.slice A' l c') ∧ Below W.heap.size W W') := hE
      have HS : Hid (∀ W A c A' c', Rd W (.slice A l c) → Rd W (.slice A' l c') → Calls Try.prog 15 #[.slice A l c, .slice A' l c'] W fun e W' => e = .returned (.bool true) ∧ Below W.heap.size W W') := hSm
      have hz1 : (i : Int) < (G : Int) := by omega
      have hlb : lb < w4.heap.size := hrow.lt
      have hsr := hbr.size
      clear ev hR0 hkeep hE hSm hosl hp4 hrow
      go_wp2_with fail
      go_region_with (first | (go_at_call 16; refine (HE.out _ ?_).mono ?_; exact hbr.drew; rintro e w' ⟨A', c', rfl, hR', hb'⟩; have q1 : w'.cell? ⟨lb, i, none⟩ = some (.slice A l c1) := (hb'.cell (p := ⟨lb, i, none⟩) (by show lb < wr.heap.size; omega)).trans g1; have q2 : Rd w' (.slice A l c1) := HK.out wr w' _ hR1 ⟨hb'.os, hb'.tape, hb'.output, hb'.size, hb'.block⟩; have q3 : Below w4.heap.size w4 w' := hbr.trans ((show Below wr.heap.size wr w' from ⟨hb'.os, hb'.tape, hb'.output, hb'.size, hb'.block⟩).mono hsr)) | (go_at_call 15; refine (HS.out _ _ _ _ _ ?_ ?_).mono ?_; assumption; assumption; rintro e w'' ⟨rfl, hb''⟩))
      all_goals
        go_wp2_with fail
        go_roundg (G - (i + 1))
        case measure => go_light; omega
        case rel => go_light; exact ⟨i + 1, by omega, rfl, by simp, q3.trans (hb''.mono q3.size)⟩
    · have hz1 : ¬ (i : Int) < (G : Int) := by omega
      go_wp2_with fail
      go_ret
      exact ⟨rfl, hbel.trans (hbr.mono hle)⟩
end Go.Proofs.Qxb6600792a
