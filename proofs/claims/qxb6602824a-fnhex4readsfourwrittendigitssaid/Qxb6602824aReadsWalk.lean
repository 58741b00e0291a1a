import Derived.Test.Qxb6602824aDigit
namespace Go.Proofs.Qxb6602824a
open Go.RowKit

theorem run_make_buf (S : Nat) (hS : S ≤ 4194304) (w : World) :
    (Instr.makeSlice 22 (.int .i64 0) (.int .i64 (S : Int))).run Try.prog w = .ok (.slice (some ⟨w.heap.size, 0, none⟩) 0 S) (w.alloc (.cells (madeCells #[.int .u8 0] S) 5)) := by
  obtain ⟨i, hi, hz, hs, hb⟩ := info_parts Try.info5
  have hr := run_make (P := Try.prog) w 22 5 i _ Try.underlying22 hi hz .i64 .i64 0 S (by omega) (by omega) (by rw [hb]; omega) (by omega)
  simp only [Int.toNat_natCast, hs, Nat.mul_one] at hr
  exact hr

/-- The four digits of n, from the first. -/
def nib (n : Nat) (k : Nat) : Nat := (n / 16 ^ (3 - k)) % 16

theorem nib_lt (n k : Nat) : nib n k < 16 := Nat.mod_lt _ (by decide)

theorem wraps_i64 (n : Int) (h₀ : 0 ≤ n) (h₁ : n < 2 ^ 62) : IntKind.i64.wrap n = n := by rw [IntKind.wrap_i64]; omega

theorem and15 (x : Int) (h0 : 0 ≤ x) (h1 : x < 65536) : bits .and .i64 x 15 = x % 16 :=
  bits_mask .i64 62 (by decide) wraps_i64 4 (by decide) x h0 (by omega)

theorem nib_at0 (m : Nat) (hm : m < 65536) : bits .and .i64 ((m : Int) / 4096) 15 = ((nib m 0 : Nat) : Int) := by
  rw [and15 _ (by omega) (by omega)]; unfold nib; show _ = ((m / 4096 % 16 : Nat) : Int); omega
theorem nib_at1 (m : Nat) (hm : m < 65536) : bits .and .i64 ((m : Int) / 256) 15 = ((nib m 1 : Nat) : Int) := by
  rw [and15 _ (by omega) (by omega)]; unfold nib; show _ = ((m / 256 % 16 : Nat) : Int); omega
theorem nib_at2 (m : Nat) (hm : m < 65536) : bits .and .i64 ((m : Int) / 16) 15 = ((nib m 2 : Nat) : Int) := by
  rw [and15 _ (by omega) (by omega)]; unfold nib; show _ = ((m / 16 % 16 : Nat) : Int); omega
theorem nib_at3 (m : Nat) (hm : m < 65536) : bits .and .i64 (m : Int) 15 = ((nib m 3 : Nat) : Int) := by
  rw [and15 _ (by omega) (by omega)]; unfold nib; show _ = ((m / 1 % 16 : Nat) : Int); omega

/-- The digits written so far, one more. -/
structure Dg (m : Nat) (l : List Int) (k : Nat) : Prop where
  len : l.length = k
  dig : ∀ j, j < k → ∃ u, l.getD j 0 = digch (nib m j) u

theorem dg_nil (m : Nat) : Dg m [] 0 := ⟨rfl, fun _ hj => absurd hj (Nat.not_lt_zero _)⟩
theorem dg_snoc {m : Nat} {l : List Int} {k : Nat} (h : Dg m l k) (u : Bool) : Dg m (l ++ [digch (nib m k) u]) (k + 1) := by
  refine ⟨by rw [List.length_append, h.len]; rfl, fun j hj => ?_⟩
  by_cases e : j = k
  · subst e
    refine ⟨u, ?_⟩
    rw [List.getD_eq_getElem?_getD, List.getElem?_append_right (by rw [h.len]; exact Nat.le_refl _), h.len]
    simp
  · obtain ⟨u', hu'⟩ := h.dig j (by omega)
    refine ⟨u', ?_⟩
    rw [← hu', List.getD_eq_getElem?_getD, List.getD_eq_getElem?_getD, List.getElem?_append_left (by rw [h.len]; omega)]

/-- Four written digits read back. -/
theorem hx_digits {m : Nat} {l : List Int} (h : Dg m l 4) (hm : m < 65536) {z : Nat → Int} (hz : ∀ j, j < 4 → z j = l.getD j 0) : hx z 4 = some (m : Int) := by
  have step : ∀ j, j < 4 → hexv (z j) = some ((nib m j : Nat) : Int) := fun j hj => by
    obtain ⟨u, hu⟩ := h.dig j hj
    rw [hz j hj, hu]
    exact hexv_digch (nib_lt m j)
  have h1 := hx_next (z := z) (k := 0) rfl (step 0 (by decide))
  have h2 := hx_next h1 (step 1 (by decide))
  have h3 := hx_next h2 (step 2 (by decide))
  have h4 := hx_next h3 (step 3 (by decide))
  rw [h4]
  congr 1
  show ((((0 : Int) * 16 + ((m / 4096 % 16 : Nat) : Int)) * 16 + ((m / 256 % 16 : Nat) : Int)) * 16 + ((m / 16 % 16 : Nat) : Int)) * 16 + ((m / 1 % 16 : Nat) : Int) = (m : Int)
  omega

set_option maxHeartbeats 3200000 in
set_option maxRecDepth 100000 in
theorem reads_walk (m : Nat) (up : Int) (A : Option Addr) (N : Bool) (n c : Nat) (z : Nat → Int) (w : World) (hm : m < 65536) (_hu0 : 0 ≤ up) (_hu1 : up ≤ 255) (h : Sl w (.slice A n c) N n z) (hb : Byt n z) :
    Calls Try.prog 4 #[.int .u16 (m : Int), .int .u8 up, .slice A n c] w fun e w' => e = .returned (.bool true) ∧ Below w.heap.size w w' := by
  obtain ⟨i0, hi, hzz, hsz, hby⟩ := info_parts Try.info5
  go_enter Try.func4, Try.ntmps4
  go_wp2_with fail
  refine (bytesReads_any m up A n c _).mono ?_
  rintro e w1 ⟨⟨t, rfl⟩, rfl⟩
  cases t
  · go_wp2_with fail
    go_ret
    exact ⟨rfl, Below.refl _ _⟩
  by_cases hn : (1048576 : Int) < (n : Int)
  · go_wp2_with fail
    go_ret
    exact ⟨rfl, Below.refl _ _⟩
  have hn' : n ≤ 1048576 := by omega
  go_wp2_with fail
  refine (clone_any A N n c z _ hn' h).mono ?_
  rintro e w2 ⟨A2, rfl, h2, hb2⟩
  have hmk := run_make_buf (4 + n) (by omega)
  rw [show ((4 + n : Nat) : Int) = 4 + (n : Int) from by omega] at hmk
  go_wp2_with fail
  clear hmk
  have hown0 : (w2.alloc (.cells (madeCells #[.int .u8 0] (4 + n)) 5)).ownsRow w2.heap.size 5 1 (.slice (some ⟨w2.heap.size, 0, none⟩) 0 (4 + n)) 0 [] :=
    World.ownsRow_made w2 _ _ (Nat.le_refl _) (by unfold maxLen; omega) (by rw [size_madeCells]; omega)
  have hbl0 : Below w2.heap.size w2 (w2.alloc (.cells (madeCells #[.int .u8 0] (4 + n)) 5)) := (Below.refl _ _).alloc (Nat.le_refl _) _
  go_loopg [7, 8] 4 (fun g s i wr => ∃ (k : Nat) (l : List Int), k ≤ 4 ∧ g = 4 - k ∧ i = .int .i64 k ∧ s = .slice (some ⟨w2.heap.size, 0, none⟩) k (4 + n) ∧ Dg m l k ∧
    wr.ownsRow w2.heap.size 5 1 (.slice (some ⟨w2.heap.size, 0, none⟩) k (4 + n)) k (l.map (Value.int .u8)) ∧ Below w2.heap.size w2 wr)
  case atStart => exact ⟨0, [], Nat.zero_le _, rfl, rfl, rfl, dg_nil m, hown0, hbl0⟩
  case round =>
    clear hown0 hbl0
    obtain ⟨k, l, hk, rfl, rfl, rfl, hd, hown, hbl⟩ := hrel
    have hk4 : k = 4 ∨ k = 0 ∨ k = 1 ∨ k = 2 ∨ k = 3 := by omega
    rcases hk4 with rfl | rfl | rfl | rfl | rfl
    · have hnone : Hid (A2 = none → n = 0 ∧ n = 0) := fun e => by
        have := (sl_lit h2).2.2.1 e
        exact ⟨this, this⟩
      have holds : Hid (∀ b, A2 = some b → ∀ j u, (bcells n z)[j]? = some u → wr.cell? (b.add j) = some u) := (h2.below hbl (Nat.le_refl _)).olds
      go_wp2_with (at_builtin; refine wpList_append_fits_any _ rfl (.tmp 49) (.tmp 50) 22 rfl w2.heap.size 5 i0 1 Try.underlying22 hi hsz w2.heap.size 4 (4 + n) _ rfl hown A2 n n (bcells n z) rfl (by rw [bcells_len]; omega) hnone.out holds.out (bcells_one n z) (by omega) ?_)
      intro w3 hown3 hgrow
      have hbl3 : Below w2.heap.size w2 w3 := hbl.grown hgrow hbl.size (fun k e => by simp at e; omega)
      have hs3 : Sl w3 (.slice (some ⟨w2.heap.size, 0, none⟩) (4 + n) (4 + n)) false (4 + n) (fun i => if i < 4 then l.getD i 0 else z (i - 4)) := sl_of_owns hown3 (fun i hi => by
        by_cases e : i < 4
        · rw [List.getElem?_append_left (by rw [List.length_map, hd.len]; exact e), if_pos e]
          rw [List.getElem?_map, List.getElem?_eq_getElem (by rw [hd.len]; exact e)]
          simp [List.getD_eq_getElem?_getD, List.getElem?_eq_getElem (show i < l.length by rw [hd.len]; exact e)]
        · rw [List.getElem?_append_right (by rw [List.length_map, hd.len]; omega), if_neg e, List.length_map, hd.len]
          exact bcells_at (by omega))
      have hb3 : Byt (4 + n) (fun i => if i < 4 then l.getD i 0 else z (i - 4)) := fun i hi => by
        show 0 ≤ (if i < 4 then l.getD i 0 else z (i - 4)) ∧ (if i < 4 then l.getD i 0 else z (i - 4)) ≤ 255
        by_cases e : i < 4
        · rw [if_pos e]
          obtain ⟨u, hu⟩ := hd.dig i e
          rw [hu]
          exact digch_bd (nib_lt m i)
        · rw [if_neg e]
          exact hb (i - 4) (by omega)
      have HX : Hid (hexR (4 + n) (fun i => if i < 4 then l.getD i 0 else z (i - 4)) = some (m : Int)) := by
        show _ = _
        rw [hexR, if_neg (by omega)]
        exact hx_digits hd hm (fun j hj => by rw [if_pos hj])
      have hs2 := hb2.size
      have hfin : Below w1.heap.size w1 w3 := hb2.trans (hbl3.mono hs2)
      have hm0 : (m : Int) < 65536 := by omega
      clear hown hgrow hown3 holds hnone hbl hbl3 hd
      go_wp2_with fail
      refine (zhex4_any _ false (4 + n) (4 + n) _ _ (by omega) hs3 hb3).mono ?_
      rintro e w' ⟨rfl, hw⟩
      obtain rfl := hw.symm
      rw [HX.out]
      unfold hexVal
      simp only [Option.getD_some, Option.isSome_some]
      go_wp2_with fail
      go_ret
      exact ⟨rfl, hfin⟩
    · go_wp2_with fail
      rw [nib_at0 m hm]
      refine (digitChar_any (nib m 0) _ _ (nib_lt m 0)).mono ?_
      rintro e w' ⟨rfl, hw⟩
      obtain rfl := hw.symm
      go_wp2_with (at_builtin; refine wpList_append_fits _ rfl (.tmp 38) (.tmp 47) 22 rfl w2.heap.size 5 i0 1 Try.underlying22 hi hsz w2.heap.size 0 (4 + n) _ rfl (hown.alloc _) ⟨wr.heap.size, 0, none⟩ 1 1 [_] rfl rfl (cell_one_new _ _ _) ?_ ?_ ?_)
      · intro u hu; simp at hu; subst hu; rfl
      · omega
      · intro w3 hown3 hgrow
        have hbl3 : Below w2.heap.size w2 w3 := (hbl.alloc hbl.size _).grown hgrow (by have := hbl.size; simp; omega) (fun k e => by simp at e; omega)
        clear hown hgrow hbl
        go_wp2_with fail
        go_roundg (4 - (0 + 1))
        case measure => go_light; omega
        case rel => go_light; exact ⟨0 + 1, _, by omega, rfl, by simp, by simp, dg_snoc hd _, by simpa using hown3, hbl3⟩
    · go_wp2_with fail
      rw [nib_at1 m hm]
      refine (digitChar_any (nib m 1) _ _ (nib_lt m 1)).mono ?_
      rintro e w' ⟨rfl, hw⟩
      obtain rfl := hw.symm
      go_wp2_with (at_builtin; refine wpList_append_fits _ rfl (.tmp 38) (.tmp 47) 22 rfl w2.heap.size 5 i0 1 Try.underlying22 hi hsz w2.heap.size 1 (4 + n) _ rfl (hown.alloc _) ⟨wr.heap.size, 0, none⟩ 1 1 [_] rfl rfl (cell_one_new _ _ _) ?_ ?_ ?_)
      · intro u hu; simp at hu; subst hu; rfl
      · omega
      · intro w3 hown3 hgrow
        have hbl3 : Below w2.heap.size w2 w3 := (hbl.alloc hbl.size _).grown hgrow (by have := hbl.size; simp; omega) (fun k e => by simp at e; omega)
        clear hown hgrow hbl
        go_wp2_with fail
        go_roundg (4 - (1 + 1))
        case measure => go_light; omega
        case rel => go_light; exact ⟨1 + 1, _, by omega, rfl, by simp, by simp, dg_snoc hd _, by simpa using hown3, hbl3⟩
    · go_wp2_with fail
      rw [nib_at2 m hm]
      refine (digitChar_any (nib m 2) _ _ (nib_lt m 2)).mono ?_
      rintro e w' ⟨rfl, hw⟩
      obtain rfl := hw.symm
      go_wp2_with (at_builtin; refine wpList_append_fits _ rfl (.tmp 38) (.tmp 47) 22 rfl w2.heap.size 5 i0 1 Try.underlying22 hi hsz w2.heap.size 2 (4 + n) _ rfl (hown.alloc _) ⟨wr.heap.size, 0, none⟩ 1 1 [_] rfl rfl (cell_one_new _ _ _) ?_ ?_ ?_)
      · intro u hu; simp at hu; subst hu; rfl
      · omega
      · intro w3 hown3 hgrow
        have hbl3 : Below w2.heap.size w2 w3 := (hbl.alloc hbl.size _).grown hgrow (by have := hbl.size; simp; omega) (fun k e => by simp at e; omega)
        clear hown hgrow hbl
        go_wp2_with fail
        go_roundg (4 - (2 + 1))
        case measure => go_light; omega
        case rel => go_light; exact ⟨2 + 1, _, by omega, rfl, by simp, by simp, dg_snoc hd _, by simpa using hown3, hbl3⟩
    · go_wp2_with fail
      rw [nib_at3 m hm]
      refine (digitChar_any (nib m 3) _ _ (nib_lt m 3)).mono ?_
      rintro e w' ⟨rfl, hw⟩
      obtain rfl := hw.symm
      go_wp2_with (at_builtin; refine wpList_append_fits _ rfl (.tmp 38) (.tmp 47) 22 rfl w2.heap.size 5 i0 1 Try.underlying22 hi hsz w2.heap.size 3 (4 + n) _ rfl (hown.alloc _) ⟨wr.heap.size, 0, none⟩ 1 1 [_] rfl rfl (cell_one_new _ _ _) ?_ ?_ ?_)
      · intro u hu; simp at hu; subst hu; rfl
      · omega
      · intro w3 hown3 hgrow
        have hbl3 : Below w2.heap.size w2 w3 := (hbl.alloc hbl.size _).grown hgrow (by have := hbl.size; simp; omega) (fun k e => by simp at e; omega)
        clear hown hgrow hbl
        go_wp2_with fail
        go_roundg (4 - (3 + 1))
        case measure => go_light; omega
        case rel => go_light; exact ⟨3 + 1, _, by omega, rfl, by simp, by simp, dg_snoc hd _, by simpa using hown3, hbl3⟩
end Go.Proofs.Qxb6602824a
