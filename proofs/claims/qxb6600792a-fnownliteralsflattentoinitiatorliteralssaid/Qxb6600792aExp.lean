import Derived.Test.Qxb6600792aOwn
import Derived.Test.Qxb6600792aPush
import Derived.Test.Qxb6600792aExpDef
namespace Go.Proofs.Qxb6600792a
open Go.RowKit

/-- zzExpand's two slices, each in memory of its own. -/
structure EX (w wr : World) (Ao : Option Addr) (co : Nat) (out : List Int) (g cs : Nat) (st : List Int) : Prop where
  below : Below w.heap.size w wr
  own : wr.ownsRow w.heap.size 3 1 (.slice Ao out.length co) out.length (out.map (Value.int .i64))
  stk : wr.ownsRow w.heap.size 3 1 (.slice (some ⟨g, 0, none⟩) st.length cs) st.length (st.map (Value.int .i64))
  ne : (Value.slice Ao out.length co).ownBlock ≠ some g

theorem ex_start (w : World) (i : Int) : EX w (w.alloc (.cells #[.int .i64 i] 3)) none 0 [] w.heap.size 1 [i] :=
  ⟨(Below.refl _ _).alloc (Nat.le_refl _) _, World.ownsRow_nil _ _ _ _, World.ownsRow_lit w #[.int .i64 i] 1 (Nat.le_refl _) (by decide) rfl, by simp [Value.ownBlock]⟩

theorem ex_pop {w wr : World} {Ao : Option Addr} {co : Nat} {out : List Int} {g cs : Nat} {st : List Int} {x : Int} (h : EX w wr Ao co out g cs (st ++ [x])) : EX w wr Ao co out g cs st ∧ wr.cell? ⟨g, st.length, none⟩ = some (.int .i64 x) ∧ st.length + 1 ≤ cs := by
  have h2 := h.stk
  rw [List.length_append, List.map_append] at h2
  refine ⟨⟨h.below, h.own, ownsRow_pop (by simp) h2, h.ne⟩, ?_, ?_⟩
  · rw [h2.cellAt st.length (by simp)]
    simp
  · rcases h2.2 with ⟨h', _⟩ | ⟨g', cap', cur, h', _, _, hnc, _⟩
    · simp at h'
    · simp only [Value.slice.injEq, List.length_cons, List.length_nil] at h' hnc
      omega

theorem ex_out {w wr w1 : World} {Ao : Option Addr} {co : Nat} {out : List Int} {g cs : Nat} {st : List Int} {x : Int} {o : Obj} {g' cap : Nat} (h : EX w wr Ao co out g cs st)
    (hown : w1.ownsRow w.heap.size 3 1 (.slice (some ⟨g', 0, none⟩) (out.length + 1) cap) (out.length + 1) (out.map (Value.int .i64) ++ [.int .i64 x])) (hg : (wr.alloc o).grownBy w1 (Value.slice Ao out.length co).ownBlock)
    (hd : (Value.slice (some ⟨g', 0, none⟩) (out.length + 1) cap).ownBlock = (Value.slice Ao out.length co).ownBlock ∨ ∃ k, (Value.slice (some ⟨g', 0, none⟩) (out.length + 1) cap).ownBlock = some k ∧ wr.heap.size + 1 ≤ k) :
    EX w w1 (some ⟨g', 0, none⟩) cap (out ++ [x]) g cs st := by
  have hgl := (h.stk.lt g rfl).2
  refine ⟨(h.below.alloc h.below.size o).grown hg (by have := h.below.size; simp; omega) (fun k e => (h.own.lt k e).1), ?_, (h.stk.alloc o).kept hg (.inr (fun e => h.ne e.symm)), ?_⟩
  · rw [List.length_append, List.map_append]; exact hown
  · intro e
    rw [List.length_append] at e
    rcases hd with hd | ⟨k, hd, hk⟩
    · exact h.ne (by rw [← hd]; exact e)
    · have e' : (Value.slice (some ⟨g', 0, none⟩) (out.length + 1) cap).ownBlock = some g := e
      rw [hd] at e'
      have := Option.some.inj e'
      omega

theorem ex_stk {w wr w1 : World} {Ao : Option Addr} {co : Nat} {out : List Int} {g cs : Nat} {st : List Int} {x : Int} {o : Obj} {g' cap : Nat} (h : EX w wr Ao co out g cs st)
    (hown : w1.ownsRow w.heap.size 3 1 (.slice (some ⟨g', 0, none⟩) (st.length + 1) cap) (st.length + 1) (st.map (Value.int .i64) ++ [.int .i64 x])) (hg : (wr.alloc o).grownBy w1 (some g))
    (hd : (Value.slice (some ⟨g', 0, none⟩) (st.length + 1) cap).ownBlock = some g ∨ ∃ k, (Value.slice (some ⟨g', 0, none⟩) (st.length + 1) cap).ownBlock = some k ∧ wr.heap.size + 1 ≤ k) :
    EX w w1 Ao co out g' cap (st ++ [x]) := by
  have hgl := h.stk.lt g rfl
  refine ⟨(h.below.alloc h.below.size o).grown hg (by have := h.below.size; simp; omega) (fun k e => by have := Option.some.inj e; omega), (h.own.alloc o).kept hg (.inr h.ne), ?_, ?_⟩
  · rw [List.length_append, List.map_append]; exact hown
  · intro e
    rcases hd with hd | ⟨k, hd, hk⟩
    · have : g' = g := Option.some.inj hd
      rw [this] at e
      exact h.ne e
    · have : g' = k := Option.some.inj hd
      have := (h.own.lt g' e).2
      omega

theorem ex_stk' {w wr w1 : World} {Ao : Option Addr} {co : Nat} {out : List Int} {g cs m : Nat} {st : List Int} {x : Int} {o : Obj} {g' cap : Nat} (h : EX w wr Ao co out g cs st) (hm : st.length = m)
    (hown : w1.ownsRow w.heap.size 3 1 (.slice (some ⟨g', 0, none⟩) (m + 1) cap) (m + 1) (st.map (Value.int .i64) ++ [.int .i64 x])) (hg : (wr.alloc o).grownBy w1 (some g))
    (hd : (Value.slice (some ⟨g', 0, none⟩) (m + 1) cap).ownBlock = some g ∨ ∃ k, (Value.slice (some ⟨g', 0, none⟩) (m + 1) cap).ownBlock = some k ∧ wr.heap.size + 1 ≤ k) :
    EX w w1 Ao co out g' cap (st ++ [x]) := by
  subst hm
  exact ex_stk h hown hg hd

theorem pushes_mem {z : Nat → Int} {K : Nat} {x : Int} : ∀ {p : Nat}, p ≤ K → x ∈ pushes z K p → ∃ t, t < K ∧ x = z t
  | 0, _, h => by cases h
  | p + 1, hp, h => by
    rcases List.mem_append.1 h with h | h
    · exact pushes_mem (by omega) h
    · exact ⟨K - 1 - p, by omega, by simpa using h⟩

/-- What zzExpand hands back. -/
def ExpR (w : World) (o : Option (List Int)) (e : Ending) (w' : World) : Prop := ∃ A c, e = .returned (.slice A (o.getD []).length c) ∧ OSl w' (.slice A (o.getD []).length c) o ∧ Below w.heap.size w w'

theorem expR_nil {w w' : World} {o : Option (List Int)} (h : o = none) (hb : Below w.heap.size w w') : ExpR w o (.returned (.slice none 0 0)) w' := by
  subst h
  exact ⟨none, 0, rfl, osl_none _, hb⟩

theorem expR_out {w wr : World} {o : Option (List Int)} {Ao : Option Addr} {co : Nat} {out : List Int} {g cs : Nat} {st : List Int} (h : EX w wr Ao co out g cs st) (ho : o = some out) (hl : 0 < out.length) : ExpR w o (.returned (.slice Ao out.length co)) wr := by
  subst ho
  obtain ⟨g', cap, e, _⟩ := owns_shape h.own hl
  simp only [Value.slice.injEq, true_and] at e
  obtain ⟨rfl, rfl⟩ := e
  exact ⟨_, _, rfl, osl_of_owns h.own, h.below⟩

set_option maxHeartbeats 3200000 in
set_option maxRecDepth 100000 in
theorem expand_any (ga : Option Addr) (G c : Nat) (N : Nat → Bool) (L : Nat → Nat) (Z : Nat → Nat → Int) (n lim : Int) (i : Nat) (w : World) (_hG : G ≤ 1048576) (hL : ∀ r, r < G → L r ≤ 1048576) (hp : Parts w ga G N L Z)
    (hin : ∀ r, r < G → ∀ i, i < L r → 0 ≤ Z r i ∧ Z r i < G) (hsz : ∀ r, r < G → szTab L Z G r ≤ 2097152) (hiG : i < G) :
    Calls Try.prog 16 #[.slice ga G c, .int .i64 n, .int .i64 lim, .int .i64 (i : Int)] w fun e w' => ExpR w (ownTab n lim N L Z G i) e w' := by
  have hnil := Try.nil29
  obtain ⟨i0, hi, hzz, hs1, hby⟩ := info_parts Try.info3
  obtain ⟨gb, go, v, rfl, hc, hs⟩ := hp i hiG
  obtain ⟨A, cc, rfl, hNi, _, _, _⟩ := hs
  have hz0 : (i : Int) < (G : Int) := by omega
  cases A with
  | none =>
    have HNi : Hid (N i = true) := hNi.symm
    clear hNi
    by_cases hn : (i : Int) < n
    · have HT : Hid (ownTab n lim N L Z G i = some [(i : Int)]) := by show _ = _; rw [own_lit hiG HNi.out, if_pos hn]
      go_enter Try.func16, Try.ntmps16
      go_wp2_with fail
      go_ret
      rw [HT.out]
      exact ⟨_, 1, rfl, osl_one _ _ _ (by simp), (Below.refl _ _).alloc (Nat.le_refl _) _⟩
    · have HT : Hid (ownTab n lim N L Z G i = none) := by show _ = _; rw [own_lit hiG HNi.out, if_neg hn]
      go_enter Try.func16, Try.ntmps16
      go_wp2_with fail
      go_ret
      exact expR_nil HT.out (Below.refl _ _)
  | some a =>
    have HNi : Hid (N i = false) := hNi.symm
    have HR : Hid (resM lim [] (lvB (lvTab n N L Z G) [(i : Int)]) = ownTab n lim N L Z G i) := by
      show _ = _
      rw [own_comp_lv hiG HNi.out, ← resM_start (fun l h => lvTab_pos h)]
      have := lvB_snoc (lvTab n N L Z G) [] (i : Int)
      rw [lvB_nil, comb_nil, Int.toNat_natCast] at this
      rw [← this]
      rfl
    have hszi := hsz i hiG
    clear hNi
    go_enter Try.func16, Try.ntmps16
    go_wp2_with fail
    have h0 := ex_start w (i : Int)
    go_loopg [9, 10] (szTab L Z G i) (fun gk so ss wr => ∃ (Ao : Option Addr) (co : Nat) (out : List Int) (g cs : Nat) (st : List Int), so = .slice Ao out.length co ∧ ss = .slice (some ⟨g, 0, none⟩) st.length cs ∧ EX w wr Ao co out g cs st ∧
      resM lim out (lvB (lvTab n N L Z G) st) = ownTab n lim N L Z G i ∧ out.length + szS (szTab L Z G) st ≤ 2097152 ∧ (∀ x ∈ st, 0 ≤ x ∧ x < (G : Int)) ∧ gk = szS (szTab L Z G) st)
    case atStart => exact ⟨none, 0, [], w.heap.size, 1, [(i : Int)], rfl, rfl, h0, HR.out, by simpa [szS] using hszi, fun x hx => by simp at hx; omega, by simp [szS]⟩
    case round =>
      clear h0 HR hszi hc hz0
      obtain ⟨Ao, co, out, g, cs, st, rfl, rfl, hE, hres, hbd, hst, hgk⟩ := hrel
      have HGK : Hid (gk = szS (szTab L Z G) st) := hgk
      clear hgk
      have HRES : Hid (resM lim out (lvB (lvTab n N L Z G) st) = ownTab n lim N L Z G i) := hres
      have HST : Hid (∀ x ∈ st, 0 ≤ x ∧ x < (G : Int)) := hst
      have hlen : st.length ≤ szS (szTab L Z G) st := szS_len (fun x hx => by have := hst x hx; exact szTab_pos (by omega))
      clear hres hst
      rcases List.eq_nil_or_concat st with rfl | ⟨st', x, hst⟩
      · -- the stack is empty: out is handed back
        have HO : Hid (ownTab n lim N L Z G i = some out) := by
          show _ = _
          rw [← HRES.out, lvB_nil, resM_end]
        have hl : 0 < out.length := ownTab_pos HO.out
        have hR := expR_out hE HO.out hl
        simp only [List.length_nil]
        clear hE hl hlen hbd
        go_wp2_with fail
        go_ret
        exact hR
      · rw [List.concat_eq_append] at hst
        subst hst
        obtain ⟨hE1, hcx, hcs⟩ := ex_pop hE
        have hcsI : (st'.length : Int) ≤ (cs : Int) := by omega
        have hx := HST.out x (by simp)
        obtain ⟨q, rfl⟩ : ∃ q : Nat, x = q := ⟨x.toNat, by omega⟩
        have hqG : q < G := by omega
        have HR1 : Hid (resM lim out (comb (lvTab n N L Z G q) (lvB (lvTab n N L Z G) st')) = ownTab n lim N L Z G i) := by
          show _ = _
          rw [← HRES.out, lvB_snoc, Int.toNat_natCast]
        have HST1 : Hid (∀ x ∈ st', 0 ≤ x ∧ x < (G : Int)) := fun y hy => HST.out y (by simp [hy])
        have hsn := szS_snoc (szTab L Z G) st' (q : Int)
        rw [Int.toNat_natCast] at hsn
        have hszq := len_lt_sz (L := L) (Z := Z) hqG
        have hst'len : st'.length ≤ szS (szTab L Z G) st' := szS_len (fun y hy => by have := HST1.out y hy; exact szTab_pos (by omega))
        obtain ⟨gb', go', v', e', hc', hs'⟩ := hp q hqG
        simp only [Option.some.injEq, Addr.mk.injEq, and_true] at e'
        obtain ⟨rfl, rfl⟩ := e'
        obtain ⟨A', cc', rfl, hNq, hA1, hA2, hzq⟩ := hs'
        have g1 : wr.cell? ⟨gb, go + q, none⟩ = some (.slice A' (L q) cc') := by rw [hE1.below.cell (p := ⟨gb, go + q, none⟩) (World.block_lt_of_cell? _ _ hc')]; exact hc'
        have hLq := hL q hqG
        have hz1 : (q : Int) < (G : Int) := by omega
        have HZ : Hid (∀ k, k < L q → ∃ b o, A' = some ⟨b, o, none⟩ ∧ w.cell? ⟨b, o + k, none⟩ = some (.int .i64 (Z q k))) := hzq
        rw [List.length_append, hsn] at hlen
        rw [hsn] at hbd
        simp only [List.length_append, List.length_cons, List.length_nil]
        have HSG : Hid (gk = szS (szTab L Z G) st' + szTab L Z G q) := by show _ = _; rw [HGK.out, hsn]
        have hz3 : (st'.length : Int) < (st'.length : Int) + 1 := by omega
        have ht : ((st'.length : Int) + 1 - 1).toNat = st'.length := by omega
        clear hsn HGK hE hzq hc' HRES HST
        cases A' with
        | none =>
          have HNq : Hid (N q = true) := hNq.symm
          clear hNq hA1 hA2
          by_cases hn : n ≤ (q : Int)
          · have hR : ExpR w (ownTab n lim N L Z G i) (.returned (.slice none 0 0)) wr := expR_nil (by rw [← HR1.out, lv_nil hqG HNq.out, if_neg (by omega)]; exact resM_none _ _ _) hE1.below
            go_wp2_with fail
            go_ret
            exact hR
          · by_cases hf : lim ≤ (out.length : Int)
            · have hR : ExpR w (ownTab n lim N L Z G i) (.returned (.slice none 0 0)) wr := expR_nil (by rw [← HR1.out, lv_nil hqG HNq.out, if_pos (by omega)]; exact resM_full hf _ _) hE1.below
              go_wp2_with fail
              go_ret
              exact hR
            · have HR2 : Hid (resM lim (out ++ [(q : Int)]) (lvB (lvTab n N L Z G) st') = ownTab n lim N L Z G i) := by
                show _ = _
                rw [← HR1.out, lv_nil hqG HNq.out, if_pos (by omega), resM_leaf (by omega)]
              have hbz := hE1.below.size
              go_wp2_with (at_builtin; refine wpList_append_own2 _ rfl (.tmp 55) (.tmp 57) 29 rfl w.heap.size 3 i0 (.int .i64 0) 1 8 Try.underlying29 hi hzz hs1 hby rfl (by decide) (.slice Ao out.length co) out.length (out.map (Value.int .i64)) rfl (hE1.own.alloc _) ⟨wr.heap.size, 0, none⟩ 1 1 [.int .i64 (q : Int)] rfl rfl (cell_one_new _ _ _) (ints_oneCell .i64 [(q : Int)]) (by decide) ?_ ?_ ?_ ?_)
              · unfold maxLen; omega
              · omega
              · omega
              · intro v' w1 hown hgrow hd
                obtain ⟨g', cap, rfl, _⟩ := owns_shape hown (by omega)
                have hE2 := ex_out hE1 hown hgrow hd
                clear hown hgrow hd hE1 hcx g1
                go_wp2_with fail
                go_roundg (szS (szTab L Z G) st')
                case measure => go_light; have := HSG.out; omega
                case rel =>
                  go_light
                  exact ⟨_, cap, out ++ [(q : Int)], g, cs, st', by simp, rfl, hE2, HR2.out, by simp only [List.length_append, List.length_cons, List.length_nil]; omega, HST1.out, rfl⟩
        | some a' =>
          have HNq : Hid (N q = false) := hNq.symm
          clear hNq hA1 hA2
          by_cases h0 : ((L q : Int) == 0) = true
          · have hR : ExpR w (ownTab n lim N L Z G i) (.returned (.slice none 0 0)) wr := expR_nil (by rw [← HR1.out, lv_empty hqG HNq.out (by have := beq_iff_eq.1 h0; omega)]; exact resM_none _ _ _) hE1.below
            go_wp2_with fail
            go_ret
            exact hR
          · have h0' : ((L q : Int) == 0) = false := by simpa using h0
            have hLq0 : 0 < L q := by
              have : (L q : Int) ≠ 0 := by simpa using h0
              omega
            clear h0
            go_wp2_with fail
            clear g1 hcx h0'
            go_loopg [10, 13] (L q) (fun gk ss sk wi => ∃ (p : Nat) (J : Int) (g2 cs2 : Nat), p ≤ L q ∧ gk = L q - p ∧ sk = .int .i64 J ∧ J = (L q : Int) - 1 - (p : Int) ∧ ss = .slice (some ⟨g2, 0, none⟩) (st'.length + p) cs2 ∧
              EX w wi Ao co out g2 cs2 (st' ++ pushes (Z q) (L q) p) ∧ ∀ t, t < L q → L q ≤ t + p → Z q t < (q : Int))
            case atStart => exact ⟨0, _, g, cs, Nat.zero_le _, rfl, rfl, by omega, rfl, by simpa [pushes] using hE1, fun t h1 h2 => by omega⟩
            case round =>
              clear hE1 hcs hcsI ht hz3
              obtain ⟨p, J, g2, cs2, hp', rfl, rfl, hJ, rfl, hE2, hlt⟩ := hrel
              have HLT : Hid (∀ t, t < L q → L q ≤ t + p → Z q t < (q : Int)) := hlt
              have hlp : (st' ++ pushes (Z q) (L q) p).length = st'.length + p := by rw [List.length_append, pushes_length]
              have hstk := hE2.stk
              rw [hlp] at hstk
              clear hlt
              by_cases hpl : p < L q
              · obtain ⟨kk, rfl⟩ : ∃ kk : Nat, J = kk := ⟨J.toNat, by omega⟩
                have hkk : kk = L q - 1 - p := by omega
                have HKK : Hid (kk = L q - 1 - p) := hkk
                obtain ⟨b, o, ea, hcell⟩ := HZ.out kk (by omega)
                obtain rfl := Option.some.inj ea
                have g3 : wr.cell? ⟨b, o + kk, none⟩ = some (.int .i64 (Z q kk)) := by rw [hE2.below.cell (p := ⟨b, o + kk, none⟩) (World.block_lt_of_cell? _ _ hcell)]; exact hcell
                have hz4 : (kk : Int) < (L q : Int) := by omega
                have hz5 : (0 : Int) ≤ (kk : Int) := by omega
                have hbz := hE2.below.size
                have HLP : Hid ((st' ++ pushes (Z q) (L q) p).length = st'.length + p) := hlp
                have hbq : st'.length + L q + 1 ≤ 2097152 := by omega
                clear ea hcell hkk hJ hlp
                by_cases hge : (q : Int) ≤ Z q kk
                · have hR : ExpR w (ownTab n lim N L Z G i) (.returned (.slice none 0 0)) wr := expR_nil (by rw [← HR1.out, lv_late hqG HNq.out (by omega) hge]; exact resM_none _ _ _) hE2.below
                  go_wp2_with fail
                  go_ret
                  exact hR
                · go_wp2_with (at_builtin; refine wpList_append_own2 _ rfl (.tmp 75) (.tmp 80) 29 rfl w.heap.size 3 i0 (.int .i64 0) 1 8 Try.underlying29 hi hzz hs1 hby rfl (by decide) (.slice (some ⟨g2, 0, none⟩) (st'.length + p) cs2) (st'.length + p) _ rfl (hstk.alloc _) ⟨wr.heap.size, 0, none⟩ 1 1 [.int .i64 (Z q kk)] rfl rfl (cell_one_new _ _ _) (ints_oneCell .i64 [Z q kk]) (by decide) ?_ ?_ ?_ ?_)
                  · unfold maxLen; omega
                  · omega
                  · omega
                  · intro v' w1 hown hgrow hd
                    obtain ⟨g', cap, rfl, _⟩ := owns_shape hown (by omega)
                    rw [← List.append_assoc, ← List.map_append] at hown
                    have hE3 := ex_stk' hE2 HLP.out hown hgrow hd
                    clear hown hgrow hd hE2 g3 hstk
                    go_wp2_with fail
                    go_roundg (L q - (p + 1))
                    case measure => go_light; omega
                    case rel =>
                      go_light
                      have hkk := HKK.out
                      refine ⟨p + 1, (kk : Int) - 1, g', cap, by omega, rfl, rfl, by omega, rfl, ?_, fun t h1 h2 => ?_⟩
                      · show EX w w1 Ao co out g' cap (st' ++ (pushes (Z q) (L q) p ++ [Z q (L q - 1 - p)]))
                        rw [← List.append_assoc, ← hkk]
                        exact hE3
                      · by_cases e : t = kk
                        · subst e; omega
                        · exact HLT.out t h1 (by omega)
              · obtain rfl : L q = p := by omega
                have hJ0 : J < 0 := by omega
                have hzz' : ∀ k, k < L q → 0 ≤ Z q k ∧ Z q k < (q : Int) := fun k hk => ⟨(hin q hqG k hk).1, HLT.out k hk (by omega)⟩
                have hnode := szS_node hqG hzz'
                have HR2 : Hid (resM lim out (lvB (lvTab n N L Z G) (st' ++ pushes (Z q) (L q) (L q))) = ownTab n lim N L Z G i) := by
                  show _ = _
                  rw [← HR1.out, lvB_node hqG HNq.out (by omega) hzz']
                have HST2 : Hid (∀ x ∈ st' ++ pushes (Z q) (L q) (L q), 0 ≤ x ∧ x < (G : Int)) := fun y hy => by
                  rcases List.mem_append.1 hy with hy | hy
                  · exact HST1.out y hy
                  · obtain ⟨t, ht, rfl⟩ := pushes_mem (Nat.le_refl _) hy
                    have := hin q hqG t ht
                    omega
                have hsum := szS_append (szTab L Z G) st' (pushes (Z q) (L q) (L q))
                have HSUM : Hid (szS (szTab L Z G) (st' ++ pushes (Z q) (L q) (L q)) + 1 = gk) := by
                  show _ = _
                  rw [HSG.out, hsum]
                  omega
                have hbd2 : Hid (out.length + szS (szTab L Z G) (st' ++ pushes (Z q) (L q) (L q)) ≤ 2097152) := by
                  show _ ≤ _
                  rw [hsum]
                  omega
                have HLP : Hid ((st' ++ pushes (Z q) (L q) (L q)).length = st'.length + L q) := hlp
                clear hJ hlp hnode hsum hstk hzz'
                go_wp2_with fail
                go_roundg (szS (szTab L Z G) (st' ++ pushes (Z q) (L q) (L q)))
                case measure => go_light; have := HSUM.out; omega
                case rel =>
                  go_light
                  exact ⟨Ao, co, out, g2, cs2, st' ++ pushes (Z q) (L q) (L q), rfl, by rw [HLP.out], hE2, HR2.out, hbd2.out, HST2.out, rfl⟩
end Go.Proofs.Qxb6600792a
