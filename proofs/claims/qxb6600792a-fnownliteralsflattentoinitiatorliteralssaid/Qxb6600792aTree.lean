import Derived.Test.Qxb6600792aBase
import Derived.Test.Qxb6600792aOwnDef
namespace Go.Proofs.Qxb6600792a
open Go.RowKit

/-- The table t of zzTreeNodesWithin when i rows are done. -/
structure TN (w wr : World) (L : Nat → Nat) (Z : Nat → Nat → Int) (G i : Nat) : Prop where
  below : Below w.heap.size w wr
  row : wr.rowIs w.heap.size 3 G (fun j => .int .i64 (if j < i then (szTab L Z i j : Int) else 0))
  bound : ∀ j, j < i → szTab L Z i j ≤ 2097152

theorem tn_start (w : World) (L : Nat → Nat) (Z : Nat → Nat → Int) (G : Nat) : TN w (w.alloc (.cells (madeCells #[.int .i64 0] G) 3)) L Z G 0 :=
  ⟨(Below.refl _ _).alloc (Nat.le_refl _) _, (World.rowIs_made w _ G 3).congr (fun j _ => by simp), fun j hj => absurd hj (Nat.not_lt_zero _)⟩

theorem tn_step {w wr : World} {L : Nat → Nat} {Z : Nat → Nat → Int} {G i : Nat} (h : TN w wr L Z G i) {s : Int} (hs : s = (szRow (szTab L Z i) i (Z i) (L i) : Int)) (hb : s ≤ 2097152) :
    TN w (wr.setCell ⟨w.heap.size, i, none⟩ (.int .i64 s)) L Z G (i + 1) := by
  refine ⟨h.below.setCell (Nat.le_refl _) _, (h.row.set i _).congr (fun j _ => ?_), fun j hj => ?_⟩
  · by_cases e : j = i
    · subst e
      rw [if_pos rfl, if_pos (by omega), hs, szTab_at]
    · rw [if_neg e]
      by_cases hlt : j < i
      · rw [if_pos hlt, if_pos (by omega), szTab_other e]
      · rw [if_neg hlt, if_neg (by omega)]
  · by_cases e : j = i
    · subst e
      rw [szTab_at]
      omega
    · rw [szTab_other e]
      exact h.bound j (by omega)

/-- A count that saturates just above the budget. -/
def Sat (S : Int) (a : Nat) : Prop := (S = (a : Int) ∧ S ≤ 2097152) ∨ (S = 2097153 ∧ 2097152 < (a : Int))

theorem sat_start : Sat 1 1 := .inl ⟨rfl, by decide⟩
theorem sat_over {S : Int} {a b t : Nat} (h : Sat S a) (hb : b = a + t) (ho : 2097152 < S + (t : Int)) : Sat 2097153 b := by
  subst hb
  rcases h with ⟨h1, h2⟩ | ⟨h1, h2⟩
  · exact .inr ⟨rfl, by omega⟩
  · exact .inr ⟨rfl, by omega⟩
theorem sat_next {S : Int} {a b t : Nat} (h : Sat S a) (hb : b = a + t) (ho : S + (t : Int) ≤ 2097152) : Sat (S + (t : Int)) b := by
  subst hb
  rcases h with ⟨h1, h2⟩ | ⟨h1, h2⟩
  · exact .inl ⟨by omega, by omega⟩
  · omega
theorem sat_le {S : Int} {a : Nat} (h : Sat S a) (hs : S ≤ 2097152) : S = (a : Int) := by
  rcases h with ⟨h1, _⟩ | ⟨h1, _⟩
  · exact h1
  · omega
theorem sat_le' {S : Int} {a : Nat} (h : Sat S a) : S ≤ 2097153 := by
  rcases h with ⟨_, h1⟩ | ⟨h1, _⟩ <;> omega
theorem sat_lo {S : Int} {a : Nat} (h : Sat S a) (ha : 1 ≤ a) : 1 ≤ S := by
  rcases h with ⟨h1, _⟩ | ⟨h1, _⟩ <;> omega

/-- What zzTreeNodesWithin answers. -/
def TreeR (L : Nat → Nat) (Z : Nat → Nat → Int) (G : Nat) (e : Ending) : Prop := ∃ t, e = .returned (.bool t) ∧ (t = true → ∀ r, r < G → szTab L Z G r ≤ 2097152)

set_option maxHeartbeats 1600000 in
set_option maxRecDepth 100000 in
theorem tree_any (ga : Option Addr) (G c : Nat) (N : Nat → Bool) (L : Nat → Nat) (Z : Nat → Nat → Int) (w : World) (hG : G ≤ 1048576) (hL : ∀ r, r < G → L r ≤ 1048576) (hp : Parts w ga G N L Z)
    (hin : ∀ r, r < G → ∀ i, i < L r → 0 ≤ Z r i ∧ Z r i < G) :
    Calls Try.prog 12 #[.slice ga G c, .int .i64 2097152] w fun e w' => TreeR L Z G e ∧ Below w.heap.size w w' := by
  have hmk := run_make_row' (P := Try.prog) 29 3 (.int .i64 0) 8 Try.underlying29 Try.info3 rfl .i64 .i64 G (by omega) (by omega)
  go_enter Try.func12, Try.ntmps12
  go_wp2_with fail
  clear hmk
  have h0 := tn_start w L Z G
  go_loopg [6, 7] G (fun g t i wr => ∃ (k : Nat) (T : Int), k ≤ G ∧ g = G - k ∧ i = .int .i64 k ∧ t = .int .i64 T ∧ 0 ≤ T ∧ T ≤ 2097152 ∧ TN w wr L Z G k)
  case atStart => exact ⟨0, 0, Nat.zero_le _, rfl, rfl, rfl, Int.le_refl _, by decide, h0⟩
  case round =>
    clear h0
    obtain ⟨i, T, hik, rfl, rfl, rfl, hT0, hT1, hI⟩ := hrel
    by_cases hlt : i < G
    · obtain ⟨gb, go, v, rfl, hc, A, cc, rfl, _, _, _, hz⟩ := hp i hlt
      have hz1 : (i : Int) < (G : Int) := by omega
      have hLi := hL i hlt
      have g1 : wr.cell? ⟨gb, go + i, none⟩ = some (.slice A (L i) cc) := by rw [hI.below.cell (p := ⟨gb, go + i, none⟩) (World.block_lt_of_cell? _ _ hc)]; exact hc
      clear hc
      obtain ⟨wo, rfl⟩ : ∃ wo : World, wo = wr := ⟨_, rfl⟩
      go_wp2_with fail
      clear g1
      go_loopg [8, 10] (L i) (fun g s j wi => wo = wi ∧ ∃ (k : Nat) (S : Int), k ≤ L i ∧ g = L i - k ∧ j = .int .i64 k ∧ s = .int .i64 S ∧ Sat S (szRow (szTab L Z i) i (Z i) k))
      case atStart => exact ⟨rfl, 0, 1, Nat.zero_le _, rfl, rfl, rfl, sat_start⟩
      case round =>
        obtain ⟨rfl, k, S, hk, rfl, rfl, rfl, hS⟩ := hrel
        have hS0 := sat_lo hS (szRow_pos _ _ _ _)
        have hS1 := sat_le' hS
        have HS : Hid (Sat S (szRow (szTab L Z i) i (Z i) k)) := hS
        clear hS
        by_cases hkl : k < L i
        · obtain ⟨b, o, rfl, hcell⟩ := hz k hkl
          have hinq := hin i hlt k hkl
          obtain ⟨q, hq⟩ : ∃ q : Nat, Z i k = q := ⟨(Z i k).toNat, by omega⟩
          have hqG : q < G := by omega
          have g1 : wo.cell? ⟨b, o + k, none⟩ = some (.int .i64 (q : Int)) := by rw [hI.below.cell (p := ⟨b, o + k, none⟩) (World.block_lt_of_cell? _ _ hcell), hcell, hq]
          have hz2 : (k : Int) < (L i : Int) := by omega
          have hz3 : (q : Int) < (G : Int) := by omega
          have HQ : Hid (Z i k = q) := hq
          clear hcell hinq hq
          by_cases hqi : (q : Int) < (i : Int)
          · have g2 : wo.cell? ⟨w.heap.size, q, none⟩ = some (.int .i64 (szTab L Z i q : Int)) := by rw [hI.row.cell hqG, if_pos (by omega)]
            have hbq : szTab L Z i q ≤ 2097152 := hI.bound q (by omega)
            have HN1 : Hid (szRow (szTab L Z i) i (Z i) (k + 1) = szRow (szTab L Z i) i (Z i) k + szTab L Z i q) := by
              show szRow _ _ _ k + (if _ then _ else _) = _
              rw [HQ.out, if_pos ⟨by omega, hqi⟩, Int.toNat_natCast]
            by_cases hov : (2097152 : Int) < S + (szTab L Z i q : Int)
            · go_wp2_with fail
              go_roundg (L i - (k + 1))
              case measure => go_light; omega
              case rel =>
                go_light
                exact ⟨rfl, k + 1, 2097153, by omega, rfl, by simp, rfl, sat_over HS.out HN1.out hov⟩
            · go_wp2_with fail
              go_roundg (L i - (k + 1))
              case measure => go_light; omega
              case rel =>
                go_light
                exact ⟨rfl, k + 1, S + (szTab L Z i q : Int), by omega, rfl, by simp, rfl, sat_next HS.out HN1.out hov⟩
          · have HN1 : Hid (szRow (szTab L Z i) i (Z i) (k + 1) = szRow (szTab L Z i) i (Z i) k + 1) := by
              show szRow _ _ _ k + (if _ then _ else _) = _
              rw [HQ.out, if_neg (fun h => hqi h.2)]
            by_cases hov : (2097152 : Int) < S + 1
            · go_wp2_with fail
              go_roundg (L i - (k + 1))
              case measure => go_light; omega
              case rel =>
                go_light
                exact ⟨rfl, k + 1, 2097153, by omega, rfl, by simp, rfl, sat_over HS.out HN1.out hov⟩
            · go_wp2_with fail
              go_roundg (L i - (k + 1))
              case measure => go_light; omega
              case rel =>
                go_light
                exact ⟨rfl, k + 1, S + 1, by omega, rfl, by simp, rfl, sat_next (t := 1) HS.out HN1.out hov⟩
        · have hz2 : ¬ (k : Int) < (L i : Int) := by omega
          have hkL : k = L i := by omega
          have g2 := hI.row.cell hlt
          have g3 : wo.frozen? ⟨w.heap.size, i, none⟩ = false := hI.row.frozen _
          have hbl := hI.below
          have hbl2 : Below w.heap.size w (wo.setCell ⟨w.heap.size, i, none⟩ (.int .i64 S)) := hI.below.setCell (Nat.le_refl _) _
          simp only [Nat.lt_irrefl, if_false] at g2
          have HK : Hid (k = L i) := hkL
          clear hkL
          by_cases hov : (2097152 : Int) < T + S
          · go_wp2_with fail
            go_ret
            exact ⟨⟨false, rfl, fun h => by (cases h)⟩, hbl2⟩
          · have HS1 : Hid (S = (szRow (szTab L Z i) i (Z i) (L i) : Int)) := by
              show _ = _
              rw [← HK.out]
              exact sat_le HS.out (by omega)
            go_wp2_with fail
            go_roundg (G - (i + 1))
            case measure => go_light; omega
            case rel =>
              go_light
              exact ⟨i + 1, T + S, by omega, rfl, by simp, rfl, by omega, by omega, tn_step hI HS1.out (by omega)⟩
    · have hz1 : ¬ (i : Int) < (G : Int) := by omega
      obtain rfl : G = i := by omega
      go_wp2_with fail
      go_ret
      exact ⟨⟨true, rfl, fun _ r hr => hI.bound r hr⟩, hI.below⟩
end Go.Proofs.Qxb6600792a
