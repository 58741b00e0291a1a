import Derived.Test.Qxb6600792aOwns
import Derived.Test.Qxb6600792aOwnDef
namespace Go.Proofs.Qxb6600792a
open Go.RowKit

/-- The slice value v reads in w as the list o, or is nil. -/
def OSl (w : World) (v : Value) (o : Option (List Int)) : Prop := Sl w v o.isNone (o.getD []).length (fun i => (o.getD []).getD i 0)

theorem OSl.none_is {w : World} {v : Value} (h : OSl w v none) : v = .slice none 0 0 := by
  obtain ⟨A, c, rfl, hN, _, hc, _⟩ := h
  cases A with
  | none => rw [hc rfl]; rfl
  | some a => cases hN

theorem osl_none (w : World) : OSl w (.slice none 0 0) none := ⟨none, 0, rfl, rfl, Nat.le_refl _, fun _ => rfl, fun _ hi => absurd hi (Nat.not_lt_zero _)⟩

/-- ownLiterals' table when i segments are done. -/
structure OL (w wr : World) (T : Nat → Option (List Int)) (G i : Nat) (f : Nat → Value) : Prop where
  below : Below w.heap.size w wr
  size : w.heap.size < wr.heap.size
  row : wr.rowIs w.heap.size 29 G f
  done : ∀ j, j < G → OSl wr (f j) (T j)
  todo : ∀ j, i ≤ j → T j = none

theorem ol_start (w : World) (G : Nat) : OL w (w.alloc (.cells (madeCells #[.slice none 0 0] G) 29)) (fun _ => none) G 0 (fun _ => .slice none 0 0) :=
  ⟨(Below.refl _ _).alloc (Nat.le_refl _) _, by simp, World.rowIs_made w _ G 29, fun _ _ => osl_none _, fun _ _ => rfl⟩

/-- Nothing is stored. -/
theorem ol_skip {w wr wi : World} {T T' : Nat → Option (List Int)} {G i : Nat} {f : Nat → Value} (h : OL w wr T G i f) (hb : Below wr.heap.size wr wi) (hT : ∀ j, j ≠ i → T' j = T j) (hi : T' i = none) : OL w wi T' G (i + 1) f := by
  have hs := h.size
  have hs' := hb.size
  refine ⟨h.below.trans (hb.mono (by omega)), by omega, h.row.of_block (hb.block _ hs), fun j hj => ?_, fun j hj => ?_⟩
  · have e : T' j = T j := by
      by_cases e : j = i
      · subst e; rw [hi, h.todo j (Nat.le_refl _)]
      · exact hT j e
    rw [e]
    exact (h.done j hj).below hb (Nat.le_refl _)
  · rw [hT j (by omega)]
    exact h.todo j (by omega)

/-- lits[i] is stored. -/
theorem ol_step {w wr wi : World} {T T' : Nat → Option (List Int)} {G i : Nat} {f : Nat → Value} (h : OL w wr T G i f) (hiG : i < G) (hb : Below wr.heap.size wr wi) (hT : ∀ j, j ≠ i → T' j = T j) {A : Option Addr} {n c : Nat} (hi : OSl wi (.slice A n c) (T' i)) :
    OL w (wi.setCell ⟨w.heap.size, i, none⟩ (.slice A n c)) T' G (i + 1) (fun j => if j = i then .slice A n c else f j) := by
  have hs := h.size
  have hs' := hb.size
  have hrow := h.row.of_block (hb.block _ hs)
  have hcell : wi.cell? ⟨w.heap.size, i, none⟩ = some (.slice none 0 0) := by
    rw [hrow.cell hiG, OSl.none_is (w := wr) (v := f i) (by have := h.done i hiG; rwa [h.todo i (Nat.le_refl _)] at this)]
  refine ⟨(h.below.trans (hb.mono (by omega))).setCell (Nat.le_refl _) _, by simp; omega, hrow.set i _, fun j hj => ?_, fun j hj => ?_⟩
  · by_cases e : j = i
    · subst e
      simp only [if_pos]
      exact Sl.setCell hi hcell _
    · simp only [if_neg e]
      rw [hT j e]
      exact ((h.done j hj).below hb (Nat.le_refl _)).setCell hcell _
  · rw [hT j (by omega)]
    exact h.todo j (by omega)

/-- The cell that is stored into. -/
theorem OL.cell {w wr wi : World} {T : Nat → Option (List Int)} {G i : Nat} {f : Nat → Value} (h : OL w wr T G i f) (hiG : i < G) (hb : Below wr.heap.size wr wi) : wi.cell? ⟨w.heap.size, i, none⟩ = some (.slice none 0 0) ∧ wi.frozen? ⟨w.heap.size, i, none⟩ = false := by
  have hrow := h.row.of_block (hb.block _ h.size)
  refine ⟨?_, hrow.frozen i⟩
  rw [hrow.cell hiG, OSl.none_is (w := wr) (v := f i) (by have := h.done i hiG; rwa [h.todo i (Nat.le_refl _)] at this)]

/-- What ownLiterals is handed: the i-th segment's three cells. -/
def Segs (w : World) (sb G : Nat) (N : Nat → Bool) (L : Nat → Nat) (Z : Nat → Nat → Int) : Prop :=
  ∀ i, i < G → w.cell? ⟨sb, i * 3, none⟩ = some (.bool false) ∧ w.cell? ⟨sb, i * 3 + 1, none⟩ = some (.slice none 0 0) ∧ ∃ A c, w.cell? ⟨sb, i * 3 + 2, none⟩ = some (.slice A (L i) c) ∧ Sl w (.slice A (L i) c) (N i) (L i) (Z i)

theorem own_len {n lim : Int} {N : Nat → Bool} {L : Nat → Nat} {Z : Nat → Nat → Int} {G B : Nat} (hB : 1 ≤ B) (hbd : ∀ i, i < G → ∀ k, k ≤ L i → ∀ l, accRow (ownTab n lim N L Z i) lim (Z i) k = some l → l.length ≤ B)
    {i j : Nat} (hi : i ≤ G) {x : List Int} (h : ownTab n lim N L Z i j = some x) : x.length ≤ B := by
  have hj : j < i := by
    apply Nat.lt_of_not_le
    intro hle
    rw [ownTab_ge hle] at h
    cases h
  rw [ownTab_lt hj, ownOne] at h
  by_cases hN : N j = true
  · rw [if_pos hN] at h
    by_cases hn : (j : Int) < n
    · rw [if_pos hn] at h
      obtain rfl := Option.some.inj h
      exact hB
    · rw [if_neg hn] at h; cases h
  · rw [if_neg hN] at h
    by_cases h0 : L j = 0
    · rw [if_pos h0] at h; cases h
    · rw [if_neg h0] at h
      exact hbd j (by omega) _ (Nat.le_refl _) x h

theorem sl_lit {w : World} {A : Option Addr} {N : Bool} {n c : Nat} {z : Nat → Int} (h : Sl w (.slice A n c) N n z) : A.isNone = N ∧ n ≤ c ∧ (A = none → c = 0) ∧ ∀ i, i < n → ∃ b o, A = some ⟨b, o, none⟩ ∧ w.cell? ⟨b, o + i, none⟩ = some (.int .i64 (z i)) := by
  obtain ⟨A0, c0, e0, r⟩ := h
  simp only [Value.slice.injEq, true_and] at e0
  obtain ⟨rfl, rfl⟩ := e0
  exact r

/-- One literal: '[]int{i}'. -/
theorem osl_one (w : World) (i : Int) (b : Nat) (h : w.cell? ⟨b, 0, none⟩ = some (.int .i64 i)) : OSl w (.slice (some ⟨b, 0, none⟩) 1 1) (some [i]) :=
  ⟨_, 1, rfl, rfl, Nat.le_refl _, fun e => by (cases e), fun j hj => ⟨b, 0, rfl, by
    obtain rfl : j = 0 := by simpa using hj
    simpa using h⟩⟩

theorem osl_of_owns {w : World} {base g cap : Nat} {l : List Int} (h : w.ownsRow base 3 1 (.slice (some ⟨g, 0, none⟩) l.length cap) l.length (l.map (Value.int .i64))) : OSl w (.slice (some ⟨g, 0, none⟩) l.length cap) (some l) :=
  sl_of_owns h (fun i hi => by simp [hi])

/-- l, in the middle of a composition: what it has gathered, in memory of its own. -/
structure OI (wr wi : World) (A : Option Addr) (cp : Nat) (l : List Int) (k : Nat) : Prop where
  below : Below wr.heap.size wr wi
  own : wi.ownsRow wr.heap.size 3 1 (.slice A l.length cp) l.length (l.map (Value.int .i64))
  pos : 0 < k → 0 < l.length
  zero : k = 0 → A = none ∧ cp = 0 ∧ l = []

theorem oi_push {wr wi w1 : World} {A : Option Addr} {cp : Nat} {l x : List Int} {k g cap : Nat} (h : OI wr wi A cp l k) (hx : 0 < x.length)
    (hown : w1.ownsRow wr.heap.size 3 1 (.slice (some ⟨g, 0, none⟩) (l.length + x.length) cap) (l.length + x.length) (l.map (Value.int .i64) ++ x.map (Value.int .i64))) (hg : wi.grownBy w1 (Value.slice A l.length cp).ownBlock) :
    OI wr w1 (some ⟨g, 0, none⟩) cap (l ++ x) (k + 1) :=
  ⟨h.below.grown hg h.below.size (fun k e => (h.own.lt k e).1), by rw [List.length_append, List.map_append]; exact hown, fun _ => by rw [List.length_append]; omega, fun e => by omega⟩

set_option maxHeartbeats 3200000 in
set_option maxRecDepth 100000 in
theorem ownLiterals_any (sb G : Nat) (N : Nat → Bool) (L : Nat → Nat) (Z : Nat → Nat → Int) (n lim : Int) (w : World) (hG : G ≤ 1048576) (hL : ∀ r, r < G → L r ≤ 1048576) (hs : Segs w sb G N L Z)
    (hin : ∀ r, r < G → ∀ i, i < L r → 0 ≤ Z r i ∧ Z r i < G)
    (hbd : ∀ i, i < G → ∀ k, k ≤ L i → ∀ l, accRow (ownTab n lim N L Z i) lim (Z i) k = some l → l.length ≤ 4194304) :
    Calls Try.prog 24 #[.slice (some ⟨sb, 0, none⟩) G G, .int .i64 n, .int .i64 lim] w fun e w' => e = .returned (.slice (some ⟨w.heap.size, 0, none⟩) G G) ∧ ∃ f, OL w w' (ownTab n lim N L Z G) G G f := by
  have hmk := run_make_row' (P := Try.prog) 22 29 (.slice none 0 0) 24 Try.underlying22 Try.info29 rfl .i64 .i64 G (by omega) (by omega)
  have hnil := Try.nil29
  obtain ⟨i0, hi, hzz, hsz, hby⟩ := info_parts Try.info3
  go_enter Try.func24, Try.ntmps24
  go_wp2
  clear hmk
  have h0 := ol_start w G
  go_loopg [18] G (fun g i wr => ∃ (k : Nat), k ≤ G ∧ g = G - k ∧ i = .int .i64 k ∧ ∃ f, OL w wr (ownTab n lim N L Z k) G k f)
  case atStart => exact ⟨0, Nat.zero_le _, rfl, rfl, _, h0⟩
  case round =>
    clear h0
    obtain ⟨i, hik, rfl, rfl, f, hI⟩ := hrel
    obtain ⟨wo, rfl⟩ : ∃ wo : World, wo = wr := ⟨_, rfl⟩
    by_cases hlt : i < G
    · obtain ⟨s0, s1, A, c, s2, hsl⟩ := hs i hlt
      have hsb : sb < w.heap.size := World.block_lt_of_cell? _ _ s0
      have t0 : wo.cell? ⟨sb, i * 3, none⟩ = some (.bool false) := by rw [hI.below.cell (p := ⟨sb, i * 3, none⟩) hsb]; exact s0
      have t1 : wo.cell? ⟨sb, i * 3 + 1, none⟩ = some (.slice none 0 0) := by rw [hI.below.cell (p := ⟨sb, i * 3 + 1, none⟩) hsb]; exact s1
      have t2 : wo.cell? ⟨sb, i * 3 + 2, none⟩ = some (.slice A (L i) c) := by rw [hI.below.cell (p := ⟨sb, i * 3 + 2, none⟩) hsb]; exact s2
      have hz1 : (i : Int) < (G : Int) := by omega
      clear s0 s1 s2
      cases A with
      | none =>
        have hL0 : L i = 0 := by
          obtain ⟨A0, c0, e0, _, h2, h3, _⟩ := hsl
          simp only [Value.slice.injEq, true_and] at e0
          have := h3 e0.1.symm
          omega
        have hNi : N i = true := by
          obtain ⟨A0, c0, e0, h1, _⟩ := hsl
          simp only [Value.slice.injEq, true_and] at e0
          rw [← h1, ← e0.1]; rfl
        by_cases hn : (i : Int) < n
        · have hb : ∀ o1 o2, Below wo.heap.size wo ((wo.alloc o1).alloc o2) := fun o1 o2 => ((Below.refl _ _).alloc (Nat.le_refl _) o1).alloc (by simp) o2
          have q1 : ∀ o1 o2, ((wo.alloc o1).alloc o2).cell? ⟨w.heap.size, i, none⟩ = some (.slice none 0 0) := fun o1 o2 => (hI.cell hlt (hb o1 o2)).1
          have q2 : ∀ o1 o2, ((wo.alloc o1).alloc o2).frozen? ⟨w.heap.size, i, none⟩ = false := fun o1 o2 => (hI.cell hlt (hb o1 o2)).2
          have hT : Hid (ownTab n lim N L Z (i + 1) i = some [(i : Int)]) := by
            show _ = _
            rw [own_lit (Nat.lt_succ_self i) hNi, if_pos hn]
          have HL0 : Hid (L i = 0) := hL0
          go_wp2_with fail
          go_roundg (G - (i + 1))
          case measure => go_light; omega
          case rel =>
            go_light
            refine ⟨i + 1, by omega, rfl, by simp, _, ol_step hI hlt (hb _ _) (fun j hj => ownTab_other hj) ?_⟩
            rw [hT.out]
            exact osl_one _ _ _ (by simp)
        · have hT : Hid (ownTab n lim N L Z (i + 1) i = none) := by
            show _ = _
            rw [own_lit (Nat.lt_succ_self i) hNi, if_neg hn]
          go_wp2_with fail
          go_roundg (G - (i + 1))
          case measure => go_light; omega
          case rel =>
            go_light
            exact ⟨i + 1, by omega, rfl, by simp, _, ol_skip hI ((Below.refl _ _).alloc (Nat.le_refl _) _) (fun j hj => ownTab_other hj) hT.out⟩
      | some a =>
        obtain ⟨hNi', _, _, hzc⟩ := sl_lit hsl
        have HN : Hid (N i = false) := hNi'.symm
        have HZ : Hid (∀ k, k < L i → ∃ b o, (some a : Option Addr) = some ⟨b, o, none⟩ ∧ w.cell? ⟨b, o + k, none⟩ = some (.int .i64 (Z i k))) := hzc
        clear hNi' hzc hsl
        have hLi := hL i hlt
        go_wp2_with fail
        clear t0 t1 t2
        have hb0 : ∀ o, OI wo (wo.alloc o) none 0 [] 0 := fun o => ⟨(Below.refl _ _).alloc (Nat.le_refl _) o, World.ownsRow_nil _ _ _ _, fun h => absurd h (Nat.lt_irrefl _), fun _ => ⟨rfl, rfl, rfl⟩⟩
        go_loopg [10, 37] (L i) (fun g s j wi => ∃ (k : Nat) (A : Option Addr) (cp : Nat) (l : List Int), k ≤ L i ∧ g = L i - k ∧ j = .int .i64 k ∧ s = .slice A l.length cp ∧ accRow (ownTab n lim N L Z i) lim (Z i) k = some l ∧ OI wo wi A cp l k)
        case atStart => exact ⟨0, none, 0, [], Nat.zero_le _, rfl, rfl, rfl, rfl, hb0 _⟩
        case round =>
          clear hb0
          obtain ⟨k, A, cp, l, hk, rfl, rfl, rfl, hacc, hOI⟩ := hrel
          have HACC : Hid (accRow (ownTab n lim N L Z i) lim (Z i) k = some l) := hacc
          have hll : l.length ≤ 4194304 := hbd i hlt k hk l hacc
          clear hacc
          obtain ⟨p1, p2⟩ := hI.cell hlt hOI.below
          by_cases hkl : k < L i
          · obtain ⟨b, o, ea, hcell⟩ := HZ.out k hkl
            obtain rfl := Option.some.inj ea
            have hb : b < w.heap.size := World.block_lt_of_cell? _ _ hcell
            have hinq := hin i hlt k hkl
            obtain ⟨q, hq⟩ : ∃ q : Nat, Z i k = q := ⟨(Z i k).toNat, by omega⟩
            have hqG : q < G := by omega
            have hw1 := hI.size
            have g1 : wr.cell? ⟨b, o + k, none⟩ = some (.int .i64 (q : Int)) := by
              rw [hOI.below.cell (p := ⟨b, o + k, none⟩) (by show b < wo.heap.size; omega), hI.below.cell (p := ⟨b, o + k, none⟩) hb, hcell, hq]
            have hrow1 : wr.rowIs w.heap.size 29 G f := hI.row.of_block (hOI.below.block _ hI.size)
            have g2 : wr.cell? ⟨w.heap.size, q, none⟩ = some (f q) := hrow1.cell hqG
            have hz2 : (k : Int) < (L i : Int) := by omega
            have hz3 : (q : Int) < (G : Int) := by omega
            have HQ : Hid (Z i k = q) := hq
            have hdq := hI.done q hqG
            have HD : Hid (∀ x, ownTab n lim N L Z i q = some x → x.length ≤ 4194304) := fun x hx => own_len (by decide) hbd (by omega) hx
            clear ea hcell hinq hq hrow1
            cases hTq : ownTab n lim N L Z i q with
            | none =>
              rw [hTq] at hdq
              rw [hdq.none_is] at g2
              have HT : Hid (ownTab n lim N L Z (i + 1) i = none) := by
                show _ = _
                rw [own_comp (Nat.lt_succ_self i) HN.out (by omega)]
                exact accRow_none (accRow_refused (by rw [HQ.out, Int.toNat_natCast]; exact hTq)) hkl
              clear hdq hTq
              go_wp2_with fail
              go_roundg (G - (i + 1))
              case measure => go_light; omega
              case rel =>
                go_light
                refine ⟨i + 1, by omega, rfl, by simp, _, ol_step hI hlt hOI.below (fun j hj => ownTab_other hj) ?_⟩
                rw [HT.out]
                exact osl_none _
            | some x =>
              rw [hTq] at hdq
              have hx0 : 0 < x.length := ownTab_pos hTq
              have hx1 : x.length ≤ 4194304 := HD.out x hTq
              obtain ⟨Aq, cq, ef, _, _, _, hzq⟩ := hdq
              simp only [Option.getD_some] at ef hzq
              obtain ⟨bq, oq, rfl, hcq⟩ := hzq 0 hx0
              rw [ef] at g2
              have HX : Hid (ownTab n lim N L Z i (Z i k).toNat = some x) := by
                show _ = _
                rw [HQ.out, Int.toNat_natCast]; exact hTq
              have HS : Hid (∀ j u, (x.map (Value.int .i64))[j]? = some u → wr.cell? ((⟨bq, oq, none⟩ : Addr).add j) = some u) := by
                intro j u hu
                have hj : j < x.length := by
                  have := (List.getElem?_eq_some_iff.1 hu).1
                  simpa using this
                obtain ⟨b', o', e', hc'⟩ := hzq j hj
                simp only [Option.some.injEq, Addr.mk.injEq, and_true] at e'
                obtain ⟨rfl, rfl⟩ := e'
                rw [Go.WideShapes.add_plain, hOI.below.cell (p := ⟨bq, oq + j, none⟩) (World.block_lt_of_cell? _ _ hc'), hc']
                simpa [hj] using hu
              clear hzq hcq ef hTq
              by_cases hov : lim < (l.length : Int) + (x.length : Int)
              · have HT : Hid (ownTab n lim N L Z (i + 1) i = none) := by
                  show _ = _
                  rw [own_comp (Nat.lt_succ_self i) HN.out (by omega)]
                  exact accRow_none (accRow_over HACC.out HX.out hov) hkl
                go_wp2_with fail
                go_roundg (G - (i + 1))
                case measure => go_light; omega
                case rel =>
                  go_light
                  refine ⟨i + 1, by omega, rfl, by simp, _, ol_step hI hlt hOI.below (fun j hj => ownTab_other hj) ?_⟩
                  rw [HT.out]
                  exact osl_none _
              · have HA : Hid (accRow (ownTab n lim N L Z i) lim (Z i) (k + 1) = some (l ++ x)) := accRow_next HACC.out HX.out hov
                have hbz := hOI.below.size
                go_wp2_with (at_builtin; refine wpList_append_own _ rfl (.tmp 58) (.tmp 62) 29 rfl wo.heap.size 3 i0 (.int .i64 0) 1 8 Try.underlying29 hi hzz hsz hby rfl (by decide) (.slice A l.length cp) l.length (l.map (Value.int .i64)) rfl hOI.own ⟨bq, oq, none⟩ x.length cq (x.map (Value.int .i64)) rfl (by simp) HS.out (ints_oneCell _ _) ?_ ?_ ?_ ?_)
                · unfold maxLen; omega
                · omega
                · intro v' w1 hown hgrow _
                  obtain ⟨g, cap, rfl, _⟩ := owns_shape hown (by omega)
                  have hOI1 := oi_push hOI hx0 hown hgrow
                  clear hown hgrow hOI g1 g2 HS p1 p2
                  go_wp2_with fail
                  go_roundg (L i - (k + 1))
                  case measure => go_light; omega
                  case rel => go_light; exact ⟨k + 1, _, cap, l ++ x, by omega, rfl, by simp, by simp, HA.out, hOI1⟩
          · have hz2 : ¬ (k : Int) < (L i : Int) := by omega
            have hkL : k = L i := by omega
            have HT : Hid (OSl wr (.slice A l.length cp) (ownTab n lim N L Z (i + 1) i)) := by
              show OSl _ _ _
              by_cases h0 : L i = 0
              · rw [own_empty (Nat.lt_succ_self i) HN.out h0]
                obtain ⟨rfl, rfl, rfl⟩ := hOI.zero (by omega)
                exact osl_none _
              · rw [own_comp (Nat.lt_succ_self i) HN.out h0, ← hkL, HACC.out]
                have hl0 := hOI.pos (by omega)
                obtain ⟨g, cap, e, _⟩ := owns_shape hOI.own hl0
                simp only [Value.slice.injEq, true_and] at e
                obtain ⟨rfl, rfl⟩ := e
                exact osl_of_owns hOI.own
            clear hkL
            go_wp2_with fail
            go_roundg (G - (i + 1))
            case measure => go_light; omega
            case rel =>
              go_light
              exact ⟨i + 1, by omega, rfl, by simp, _, ol_step hI hlt hOI.below (fun j hj => ownTab_other hj) HT.out⟩
    · have hz1 : ¬ (i : Int) < (G : Int) := by omega
      obtain rfl : G = i := by omega
      go_wp2_with fail
      go_ret
      exact ⟨rfl, f, hI⟩
end Go.Proofs.Qxb6600792a
