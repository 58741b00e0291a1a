import Derived.Test.Qxb6602824aModel
namespace Go.Proofs.Qxb6602824a
open Go.RowKit

/-- The append law, what it makes under a name of its own. -/
theorem wpList_append_dst' (w : World) {ops : Array Oper} {rest : List Oper} {o : Oper} {a : Act} {Q : Exit → Act → World → Prop}
    (hg : o.guard = none) (s x : Operand) (hop : o.op = Op.call { callee := Callee.builtin Builtin.append, args := #[s, x], argTypes := #[22, 22] })
    {B : Nat} {A : Option Addr} {c : Nat} {L : List Int} (hs : a.eval s = .slice A L.length c) (hD : Dst B w A c L) (hB : B ≤ w.heap.size) (ao : Option Addr) (c' m : Nat) (xs : List Int) (hx : a.eval x = .slice ao m c') (hm : m = xs.length)
    (hnone : ao = none → xs.length = 0 ∧ c' = 0) (hc : ∀ ad, ao = some ad → ∀ j u, (ucells xs)[j]? = some u → w.cell? (ad.add j) = some u) (hb : L.length + xs.length ≤ 1073741824)
    (hK : ∀ A' c'' (o1 : List Int) w', L ++ xs = o1 → Dst B w' A' c'' o1 → Below B w w' → wpList Try.prog ops Q rest (a.put o.dst (.slice A' o1.length c'')) w') :
    wpList Try.prog ops Q (o :: rest) a w :=
  wpList_append_dst w hg s x hop hs hD hB ao c' m xs hx hm hnone hc hb (fun A' c'' w' h1 h2 => hK A' c'' _ w' rfl h1 h2)

theorem step_append_dst' {ops : Array Oper} {o : Oper} {a : Act} {w : World} {K : Act → World → Prop} {Q : Exit → Act → World → Prop} {E : Prop}
    (hg : o.guard = none) (s x : Operand) (hop : o.op = Op.call { callee := Callee.builtin Builtin.append, args := #[s, x], argTypes := #[22, 22] })
    {B : Nat} {A : Option Addr} {c : Nat} {L : List Int} (hs : a.eval s = .slice A L.length c) (hD : Dst B w A c L) (hB : B ≤ w.heap.size) (ao : Option Addr) (c' m : Nat) (xs : List Int) (hx : a.eval x = .slice ao m c') (hm : m = xs.length)
    (hnone : ao = none → xs.length = 0 ∧ c' = 0) (hc : ∀ ad, ao = some ad → ∀ j u, (ucells xs)[j]? = some u → w.cell? (ad.add j) = some u) (hb : L.length + xs.length ≤ 1073741824)
    (hK : ∀ A' c'' (o1 : List Int) w', L ++ xs = o1 → Dst B w' A' c'' o1 → Below B w w' → K (a.put o.dst (.slice A' o1.length c'')) w') :
    if Region.wanted o (yielded ops a.tmps) = true then Oper.wp Try.prog o a w K Q else E :=
  step_append_dst hg s x hop hs hD hB ao c' m xs hx hm hnone hc hb (fun A' c'' w' h1 h2 => hK A' c'' _ w' rfl h1 h2)

theorem and60 : bits BinOp.and IntKind.u8 60 15 = 12 := by kernel_rfl
theorem and62 : bits BinOp.and IntKind.u8 62 15 = 14 := by kernel_rfl
theorem and38 : bits BinOp.and IntKind.u8 38 15 = 6 := by kernel_rfl
theorem and168 : bits BinOp.and IntKind.u8 168 15 = 8 := by kernel_rfl
theorem and169 : bits BinOp.and IntKind.u8 169 15 = 9 := by kernel_rfl

theorem seg_src {w : World} {rb ro n : Nat} {R : List Int} (hn : R.length = n) (h : ∀ j, j < n → w.cell? ⟨rb, ro + j, none⟩ = some (.int .u8 (R.getD j 0))) {a b : Nat} (hab : a ≤ b) (hb : b ≤ n) :
    ∀ ad, (some ⟨rb, ro + a, none⟩ : Option Addr) = some ad → ∀ j u, (ucells (seg R a b))[j]? = some u → w.cell? (ad.add j) = some u := by
  intro ad e j u hu
  obtain rfl := Option.some.inj e
  have hl : (seg R a b).length = b - a := seg_len hab (by omega)
  have hj : j < b - a := by
    have := (List.getElem?_eq_some_iff.1 hu).1
    rwa [ucells_len, hl] at this
  rw [Go.WideShapes.add_plain, Nat.add_assoc, h (a + j) (by omega), ← hu, ucells_at (by rw [hl]; exact hj), seg_at hj]

set_option maxHeartbeats 12800000 in
set_option maxRecDepth 100000 in
theorem appendRaw_some (Ad : Option Addr) (D : List Int) (cd : Nat) (rb ro : Nat) (R : List Int) (cr : Nat) (w : World) (hd : D.length ≤ 1048576) (hr : R.length ≤ 1048576)
    (hD0 : Dst w.heap.size w Ad cd D) (h' : Sl w (.slice (some ⟨rb, ro, none⟩) R.length cr) false R.length (fun i => R.getD i 0)) :
    Calls Try.prog 15 #[.slice Ad D.length cd, .slice (some ⟨rb, ro, none⟩) R.length cr] w fun e w' => PassR w (D ++ esc1 true 0 false false R) e w' := by
  have hnil := Try.nil22
  obtain ⟨_, hrc, _, hz⟩ := sl_lit h'
  have HZ : Hid (∀ i, i < R.length → w.cell? ⟨rb, ro + i, none⟩ = some (.int .u8 (R.getD i 0))) := fun i hi => by
    obtain ⟨b', o', e', hc'⟩ := hz i hi
    simp only [Option.some.injEq, Addr.mk.injEq, and_true] at e'
    obtain ⟨rfl, rfl⟩ := e'
    exact hc'
  clear hz h'
  generalize hnR : R.length = n at *
  go_enter Try.func15, Try.ntmps15
  go_wp2_with fail
  go_loopg [0, 5, 6, 7, 8] n (fun g so st ss se si wr => ∃ (i a : Nat) (out : List Int) (Ao : Option Addr) (co : Nat) (s e : Bool), i ≤ n ∧ a ≤ i ∧ g = n - i ∧ si = .int .i64 i ∧ st = .int .i64 a ∧ ss = .bool s ∧ se = .bool e ∧ so = .slice Ao out.length co ∧ Dst w.heap.size wr Ao co out ∧ Below w.heap.size w wr ∧
    out ++ seg R a i ++ esc1 true 0 s e (R.drop i) = D ++ esc1 true 0 false false R ∧ out.length + (i - a) ≤ D.length + 6 * i)
  case atStart => exact ⟨0, 0, D, Ad, cd, false, false, Nat.zero_le _, Nat.le_refl _, rfl, rfl, rfl, rfl, rfl, rfl, hD0, Below.refl _ _, by simp [seg], by omega⟩
  case round =>
    obtain ⟨i, a, out, Ao, co, s, e, hi, ha, rfl, rfl, rfl, rfl, rfl, rfl, hD, hbl, hres, hol⟩ := hrel
    have HRES : Hid (out ++ seg R a i ++ esc1 true 0 s e (R.drop i) = D ++ esc1 true 0 false false R) := hres
    have HN : Hid (R.length = n) := hnR
    clear hres
    by_cases hlt : i < n
    · have HALL : Hid (∀ j, j < n → wr.cell? ⟨rb, ro + j, none⟩ = some (.int .u8 (R.getD j 0))) := fun j hj => by
        rw [hbl.cell (p := ⟨rb, ro + j, none⟩) (World.block_lt_of_cell? _ _ (HZ.out j hj))]
        exact HZ.out j hj
      have HDR : Hid (R.drop i = R.getD i 0 :: R.drop (i + 1)) := drop_at (by omega)
      obtain ⟨cc, hcc⟩ : ∃ cc, R.getD i 0 = cc := ⟨_, rfl⟩
      have hcw := HALL.out i hlt
      rw [hcc] at hcw HDR
      have hz1 : (i : Int) < (n : Int) := by omega
      have hz2 : (a : Int) ≤ (i : Int) := by omega
      have hz3 : (i : Int) ≤ (cr : Int) := by omega
      have hbs := hbl.size
      have HCC : Hid (R.getD i 0 = cc) := hcc
      clear hcc hnR
      have HL : Hid ((seg R a i).length = i - a) := seg_len ha (by have := HN.out; omega)
      have HSRC : Hid (∀ ad, (some ⟨rb, ro + a, none⟩ : Option Addr) = some ad → ∀ j u, (ucells (seg R a i))[j]? = some u → wr.cell? (ad.add j) = some u) := seg_src HN.out HALL.out ha hi
      have HBD : Hid (out.length + (seg R a i).length ≤ 1073741824) := by show _ ≤ _; rw [HL.out]; omega
      cases s with
      | false =>
        by_cases hsp : cc = 32 ∨ cc = 9 ∨ cc = 10 ∨ cc = 13
        · rcases hsp with rfl | rfl | rfl | rfl
          all_goals
            go_wp2_with (at_builtin; refine wpList_append_dst' _ rfl (.tmp 41) (.tmp 45) rfl rfl hD hbs _ _ _ (seg R a i) rfl HL.out.symm (fun h => by cases h) HSRC.out HBD.out ?_)
            intro A1 c1 o1 w1 ho1 hD1 hb1
            have hbl1 : Below w.heap.size w w1 := hbl.trans hb1
            have hs1 := hbl1.size
            have hlen1 : o1.length ≤ D.length + 6 * i := by rw [← ho1, List.length_append, HL.out]; omega
            have HO1 : Hid (out ++ seg R a i = o1) := ho1
            clear ho1
            have HNEXT : Hid (o1 ++ seg R (i + 1) (i + 1) ++ esc1 true 0 false e (R.drop (i + 1)) = D ++ esc1 true 0 false false R) := by
              show _ = _
              rw [← HRES.out, HDR.out, seg_nil, ← HO1.out]
              simp [esc1, sp]
            clear hD hbl hb1 hcw HSRC
            go_wp2_with fail
            go_roundg (n - (i + 1))
            case measure => go_light; omega
            case rel => go_light; exact ⟨i + 1, i + 1, o1, A1, c1, false, e, by omega, by omega, rfl, by go_num, by go_num, rfl, rfl, rfl, hD1, hbl1, HNEXT.out, by omega⟩
        · have b32 : (cc == 32) = false := beq_eq_false_iff_ne.2 (fun h => hsp (.inl h))
          have b9 : (cc == 9) = false := beq_eq_false_iff_ne.2 (fun h => hsp (.inr (.inl h)))
          have b10 : (cc == 10) = false := beq_eq_false_iff_ne.2 (fun h => hsp (.inr (.inr (.inl h))))
          have b13 : (cc == 13) = false := beq_eq_false_iff_ne.2 (fun h => hsp (.inr (.inr (.inr h))))
          clear hsp
          have HNEXT : Hid (out ++ seg R a (i + 1) ++ esc1 true 0 (cc == 34) e (R.drop (i + 1)) = D ++ esc1 true 0 false false R) := by
            show _ = _
            rw [← HRES.out, HDR.out, seg_succ ha (by have := HN.out; omega), HCC.out]
            simp [esc1, sp, b32, b9, b10, b13]
          go_wp2_with fail
          go_roundg (n - (i + 1))
          case measure => go_light; omega
          case rel => go_light; exact ⟨i + 1, a, out, Ao, co, (cc == 34), e, by omega, by omega, rfl, by go_num, rfl, rfl, rfl, rfl, hD, hbl, HNEXT.out, by omega⟩
      | true =>
        cases e with
        | true =>
          have HNEXT : Hid (out ++ seg R a (i + 1) ++ esc1 true 0 true false (R.drop (i + 1)) = D ++ esc1 true 0 false false R) := by
            show _ = _
            rw [← HRES.out, HDR.out, seg_succ ha (by have := HN.out; omega), HCC.out]
            simp [esc1]
          go_wp2_with fail
          go_roundg (n - (i + 1))
          case measure => go_light; omega
          case rel => go_light; exact ⟨i + 1, a, out, Ao, co, true, false, by omega, by omega, rfl, by go_num, rfl, rfl, rfl, rfl, hD, hbl, HNEXT.out, by omega⟩
        | false =>
          by_cases h92 : cc = 92
          · subst h92
            have HNEXT : Hid (out ++ seg R a (i + 1) ++ esc1 true 0 true true (R.drop (i + 1)) = D ++ esc1 true 0 false false R) := by
              show _ = _
              rw [← HRES.out, HDR.out, seg_succ ha (by have := HN.out; omega), HCC.out]
              simp [esc1]
            go_wp2_with fail
            go_roundg (n - (i + 1))
            case measure => go_light; omega
            case rel => go_light; exact ⟨i + 1, a, out, Ao, co, true, true, by omega, by omega, rfl, by go_num, rfl, rfl, rfl, rfl, hD, hbl, HNEXT.out, by omega⟩
          · have b92 : (cc == 92) = false := beq_eq_false_iff_ne.2 h92
            by_cases h34 : cc = 34
            · subst h34
              have HNEXT : Hid (out ++ seg R a (i + 1) ++ esc1 true 0 false false (R.drop (i + 1)) = D ++ esc1 true 0 false false R) := by
                show _ = _
                rw [← HRES.out, HDR.out, seg_succ ha (by have := HN.out; omega), HCC.out]
                simp [esc1]
              clear h92
              go_wp2_with fail
              go_roundg (n - (i + 1))
              case measure => go_light; omega
              case rel => go_light; exact ⟨i + 1, a, out, Ao, co, false, false, by omega, by omega, rfl, by go_num, rfl, rfl, rfl, rfl, hD, hbl, HNEXT.out, by omega⟩
            · have b34 : (cc == 34) = false := beq_eq_false_iff_ne.2 h34
              by_cases h60 : cc = 60
              · subst h60
                clear h92 h34
                go_wp2_with (at_builtin; refine wpList_append_dst' _ rfl (.tmp 70) (.tmp 74) rfl rfl hD hbs _ _ _ (seg R a i) rfl HL.out.symm (fun h => by cases h) HSRC.out HBD.out ?_)
                intro A1 c1 o1 w1 ho1 hD1 hb1
                have hbl1 : Below w.heap.size w w1 := hbl.trans hb1
                have hs1 := hbl1.size
                have hlen1 : o1.length ≤ D.length + 6 * i := by rw [← ho1, List.length_append, HL.out]; omega
                have HO1 : Hid (out ++ seg R a i = o1) := ho1
                clear ho1
                have hD2 : Hid (∀ ob, Dst w.heap.size ((w1.alloc ob).drew) A1 c1 o1) := fun ob => hD1.keep (((Below.refl _ _).alloc (Nat.le_refl _) ob).drew) hs1
                have hsz2 : Hid (∀ ob, w.heap.size ≤ ((w1.alloc ob).drew).heap.size) := fun ob => by show w.heap.size ≤ (w1.heap.push ob).size; simp; omega
                have hsrc : Hid (∀ ad, (some ⟨w1.heap.size, 0, none⟩ : Option Addr) = some ad → ∀ j u, (ucells eLt)[j]? = some u → ((w1.alloc (.cells #[.int .u8 92, .int .u8 117, .int .u8 48, .int .u8 48, .int .u8 51, .int .u8 99] 5)).drew).cell? (ad.add j) = some u) := new_src w1 eLt _ rfl
                have hbd2 : Hid (o1.length + eLt.length ≤ 1073741824) := by show o1.length + 6 ≤ _; omega
                have HB2 : Hid (∀ ob, Below w.heap.size w ((w1.alloc ob).drew)) := fun ob => (hbl1.alloc hs1 ob).drew
                have HNEXT : Hid (∀ o2, o1 ++ eLt = o2 → o2 ++ seg R (i + 1) (i + 1) ++ esc1 true 0 true false (R.drop (i + 1)) = D ++ esc1 true 0 false false R ∧ o2.length = o1.length + 6) := fun o2 h2 => by
                  refine ⟨?_, by rw [← h2, List.length_append]; rfl⟩
                  rw [← HRES.out, HDR.out, seg_nil, ← h2, ← HO1.out]
                  simp [esc1]
                have hand := and60
                clear hD hbl hb1 hcw HSRC
                go_wp2_with fail
                go_region_law (refine step_append_dst' rfl (.tmp 76) (.tmp 83) rfl (A := A1) (c := c1) (L := o1) (by simp [Act.eval]) (hD2.out _) (hsz2.out _) (some ⟨w1.heap.size, 0, none⟩) 6 6 eLt (by simp [Act.eval]) rfl (fun h => by cases h) hsrc.out hbd2.out ?_; intro A2 c2 o2 w2 ho2 hD3 hb3)
                all_goals
                  have hbl3 : Below w.heap.size w w2 := (HB2.out _).trans hb3
                  obtain ⟨hn1, hn2⟩ := HNEXT.out o2 ho2
                  have HN1 : Hid (o2 ++ seg R (i + 1) (i + 1) ++ esc1 true 0 true false (R.drop (i + 1)) = D ++ esc1 true 0 false false R) := hn1
                  have HN2 : Hid (o2.length = o1.length + 6) := hn2
                  clear ho2 hb3 hD2 hsz2 hsrc hbd2 HB2 HNEXT hn1 hn2 hand
                  go_wp2_with fail
                  go_roundg (n - (i + 1))
                  case measure => go_light; omega
                  case rel => go_light; exact ⟨i + 1, i + 1, o2, A2, c2, true, false, by omega, by omega, rfl, by go_num, by go_num, rfl, rfl, rfl, hD3, hbl3, HN1.out, by have := HN2.out; omega⟩
              · have b60 : (cc == 60) = false := beq_eq_false_iff_ne.2 h60
                by_cases h62 : cc = 62
                · subst h62
                  clear h92 h34 h60
                  go_wp2_with (at_builtin; refine wpList_append_dst' _ rfl (.tmp 70) (.tmp 74) rfl rfl hD hbs _ _ _ (seg R a i) rfl HL.out.symm (fun h => by cases h) HSRC.out HBD.out ?_)
                  intro A1 c1 o1 w1 ho1 hD1 hb1
                  have hbl1 : Below w.heap.size w w1 := hbl.trans hb1
                  have hs1 := hbl1.size
                  have hlen1 : o1.length ≤ D.length + 6 * i := by rw [← ho1, List.length_append, HL.out]; omega
                  have HO1 : Hid (out ++ seg R a i = o1) := ho1
                  clear ho1
                  have hD2 : Hid (∀ ob, Dst w.heap.size ((w1.alloc ob).drew) A1 c1 o1) := fun ob => hD1.keep (((Below.refl _ _).alloc (Nat.le_refl _) ob).drew) hs1
                  have hsz2 : Hid (∀ ob, w.heap.size ≤ ((w1.alloc ob).drew).heap.size) := fun ob => by show w.heap.size ≤ (w1.heap.push ob).size; simp; omega
                  have hsrc : Hid (∀ ad, (some ⟨w1.heap.size, 0, none⟩ : Option Addr) = some ad → ∀ j u, (ucells eGt)[j]? = some u → ((w1.alloc (.cells #[.int .u8 92, .int .u8 117, .int .u8 48, .int .u8 48, .int .u8 51, .int .u8 101] 5)).drew).cell? (ad.add j) = some u) := new_src w1 eGt _ rfl
                  have hbd2 : Hid (o1.length + eGt.length ≤ 1073741824) := by show o1.length + 6 ≤ _; omega
                  have HB2 : Hid (∀ ob, Below w.heap.size w ((w1.alloc ob).drew)) := fun ob => (hbl1.alloc hs1 ob).drew
                  have HNEXT : Hid (∀ o2, o1 ++ eGt = o2 → o2 ++ seg R (i + 1) (i + 1) ++ esc1 true 0 true false (R.drop (i + 1)) = D ++ esc1 true 0 false false R ∧ o2.length = o1.length + 6) := fun o2 h2 => by
                    refine ⟨?_, by rw [← h2, List.length_append]; rfl⟩
                    rw [← HRES.out, HDR.out, seg_nil, ← h2, ← HO1.out]
                    simp [esc1]
                  have hand := and62
                  clear hD hbl hb1 hcw HSRC
                  go_wp2_with fail
                  go_region_law (refine step_append_dst' rfl (.tmp 76) (.tmp 83) rfl (A := A1) (c := c1) (L := o1) (by simp [Act.eval]) (hD2.out _) (hsz2.out _) (some ⟨w1.heap.size, 0, none⟩) 6 6 eGt (by simp [Act.eval]) rfl (fun h => by cases h) hsrc.out hbd2.out ?_; intro A2 c2 o2 w2 ho2 hD3 hb3)
                  all_goals
                    have hbl3 : Below w.heap.size w w2 := (HB2.out _).trans hb3
                    obtain ⟨hn1, hn2⟩ := HNEXT.out o2 ho2
                    have HN1 : Hid (o2 ++ seg R (i + 1) (i + 1) ++ esc1 true 0 true false (R.drop (i + 1)) = D ++ esc1 true 0 false false R) := hn1
                    have HN2 : Hid (o2.length = o1.length + 6) := hn2
                    clear ho2 hb3 hD2 hsz2 hsrc hbd2 HB2 HNEXT hn1 hn2 hand
                    go_wp2_with fail
                    go_roundg (n - (i + 1))
                    case measure => go_light; omega
                    case rel => go_light; exact ⟨i + 1, i + 1, o2, A2, c2, true, false, by omega, by omega, rfl, by go_num, by go_num, rfl, rfl, rfl, hD3, hbl3, HN1.out, by have := HN2.out; omega⟩
                · have b62 : (cc == 62) = false := beq_eq_false_iff_ne.2 h62
                  by_cases h38 : cc = 38
                  · subst h38
                    clear h92 h34 h60 h62
                    go_wp2_with (at_builtin; refine wpList_append_dst' _ rfl (.tmp 70) (.tmp 74) rfl rfl hD hbs _ _ _ (seg R a i) rfl HL.out.symm (fun h => by cases h) HSRC.out HBD.out ?_)
                    intro A1 c1 o1 w1 ho1 hD1 hb1
                    have hbl1 : Below w.heap.size w w1 := hbl.trans hb1
                    have hs1 := hbl1.size
                    have hlen1 : o1.length ≤ D.length + 6 * i := by rw [← ho1, List.length_append, HL.out]; omega
                    have HO1 : Hid (out ++ seg R a i = o1) := ho1
                    clear ho1
                    have hD2 : Hid (∀ ob, Dst w.heap.size ((w1.alloc ob).drew) A1 c1 o1) := fun ob => hD1.keep (((Below.refl _ _).alloc (Nat.le_refl _) ob).drew) hs1
                    have hsz2 : Hid (∀ ob, w.heap.size ≤ ((w1.alloc ob).drew).heap.size) := fun ob => by show w.heap.size ≤ (w1.heap.push ob).size; simp; omega
                    have hsrc : Hid (∀ ad, (some ⟨w1.heap.size, 0, none⟩ : Option Addr) = some ad → ∀ j u, (ucells eAm)[j]? = some u → ((w1.alloc (.cells #[.int .u8 92, .int .u8 117, .int .u8 48, .int .u8 48, .int .u8 50, .int .u8 54] 5)).drew).cell? (ad.add j) = some u) := new_src w1 eAm _ rfl
                    have hbd2 : Hid (o1.length + eAm.length ≤ 1073741824) := by show o1.length + 6 ≤ _; omega
                    have HB2 : Hid (∀ ob, Below w.heap.size w ((w1.alloc ob).drew)) := fun ob => (hbl1.alloc hs1 ob).drew
                    have HNEXT : Hid (∀ o2, o1 ++ eAm = o2 → o2 ++ seg R (i + 1) (i + 1) ++ esc1 true 0 true false (R.drop (i + 1)) = D ++ esc1 true 0 false false R ∧ o2.length = o1.length + 6) := fun o2 h2 => by
                      refine ⟨?_, by rw [← h2, List.length_append]; rfl⟩
                      rw [← HRES.out, HDR.out, seg_nil, ← h2, ← HO1.out]
                      simp [esc1]
                    have hand := and38
                    clear hD hbl hb1 hcw HSRC
                    go_wp2_with fail
                    go_region_law (refine step_append_dst' rfl (.tmp 76) (.tmp 83) rfl (A := A1) (c := c1) (L := o1) (by simp [Act.eval]) (hD2.out _) (hsz2.out _) (some ⟨w1.heap.size, 0, none⟩) 6 6 eAm (by simp [Act.eval]) rfl (fun h => by cases h) hsrc.out hbd2.out ?_; intro A2 c2 o2 w2 ho2 hD3 hb3)
                    all_goals
                      have hbl3 : Below w.heap.size w w2 := (HB2.out _).trans hb3
                      obtain ⟨hn1, hn2⟩ := HNEXT.out o2 ho2
                      have HN1 : Hid (o2 ++ seg R (i + 1) (i + 1) ++ esc1 true 0 true false (R.drop (i + 1)) = D ++ esc1 true 0 false false R) := hn1
                      have HN2 : Hid (o2.length = o1.length + 6) := hn2
                      clear ho2 hb3 hD2 hsz2 hsrc hbd2 HB2 HNEXT hn1 hn2 hand
                      go_wp2_with fail
                      go_roundg (n - (i + 1))
                      case measure => go_light; omega
                      case rel => go_light; exact ⟨i + 1, i + 1, o2, A2, c2, true, false, by omega, by omega, rfl, by go_num, by go_num, rfl, rfl, rfl, hD3, hbl3, HN1.out, by have := HN2.out; omega⟩
                  · have b38 : (cc == 38) = false := beq_eq_false_iff_ne.2 h38
                    by_cases h226 : cc = 226
                    · subst h226
                      by_cases hi2 : i + 2 < n
                      · have hz4 : (i : Int) + 2 < (n : Int) := by omega
                        have ht1 : ((i : Int) + 1).toNat = i + 1 := by omega
                        have ht2 : ((i : Int) + 2).toNat = i + 2 := by omega
                        have hz5 : (i : Int) + 1 < (n : Int) := by omega
                        have HT : Hid ((R.drop (i + 1)).take 2 = [R.getD (i + 1) 0, R.getD (i + 2) 0]) := take2_at (by have := HN.out; omega)
                        have HD3 : Hid (R.drop (i + 1) = R.getD (i + 1) 0 :: R.getD (i + 2) 0 :: R.drop (i + 3)) := by
                          show _ = _
                          rw [drop_at (show i + 1 < R.length by have := HN.out; omega), drop_at (show i + 1 + 1 < R.length by have := HN.out; omega)]
                        have hc1 := HALL.out (i + 1) (by omega)
                        have hc2 := HALL.out (i + 2) (by omega)
                        have hrb : rb < w.heap.size := World.block_lt_of_cell? _ _ (HZ.out (i + 2) (by omega))
                        obtain ⟨c1, hcc1⟩ : ∃ c1, R.getD (i + 1) 0 = c1 := ⟨_, rfl⟩
                        obtain ⟨c2, hcc2⟩ : ∃ c2, R.getD (i + 2) 0 = c2 := ⟨_, rfl⟩
                        rw [hcc1] at hc1 HT HD3
                        rw [hcc2] at hc2 HT HD3
                        clear hcc1 hcc2
                        by_cases h128 : c1 = 128
                        · subst h128
                          by_cases h168 : c2 = 168
                          · subst h168
                            clear h92 h34 h60 h62 h38
                            go_wp2_with (at_builtin; refine wpList_append_dst' _ rfl (.tmp 121) (.tmp 125) rfl rfl hD hbs _ _ _ (seg R a i) rfl HL.out.symm (fun h => by cases h) HSRC.out HBD.out ?_)
                            intro A1 c1 o1 w1 ho1 hD1 hb1
                            have hbl1 : Below w.heap.size w w1 := hbl.trans hb1
                            have hs1 := hbl1.size
                            have hlen1 : o1.length ≤ D.length + 6 * i := by rw [← ho1, List.length_append, HL.out]; omega
                            have HO1 : Hid (out ++ seg R a i = o1) := ho1
                            clear ho1
                            have hD2 : Hid (∀ ob, Dst w.heap.size (w1.alloc ob) A1 c1 o1) := fun ob => hD1.keep ((Below.refl _ _).alloc (Nat.le_refl _) ob) hs1
                            have hsz2 : Hid (∀ ob, w.heap.size ≤ (w1.alloc ob).heap.size) := fun ob => by show w.heap.size ≤ (w1.heap.push ob).size; simp; omega
                            have hsrc : Hid (∀ ad, (some ⟨w1.heap.size, 0, none⟩ : Option Addr) = some ad → ∀ j u, (ucells eL8)[j]? = some u → (w1.alloc (.cells #[.int .u8 92, .int .u8 117, .int .u8 50, .int .u8 48, .int .u8 50, .int .u8 56] 5)).cell? (ad.add j) = some u) := new_src w1 eL8 _ rfl
                            have hbd2 : Hid (o1.length + eL8.length ≤ 1073741824) := by show o1.length + 6 ≤ _; omega
                            have HB2 : Hid (∀ ob, Below w.heap.size w (w1.alloc ob)) := fun ob => hbl1.alloc hs1 ob
                            have HNEXT : Hid (∀ o2, o1 ++ eL8 = o2 → o2 ++ seg R (i + 3) (i + 3) ++ esc1 true 0 true false (R.drop (i + 3)) = D ++ esc1 true 0 false false R ∧ o2.length = o1.length + 6) := fun o2 h2 => by
                              refine ⟨?_, by rw [← h2, List.length_append]; rfl⟩
                              rw [← HRES.out, HDR.out, seg_nil, ← h2, ← HO1.out, HD3.out]
                              simp [esc1]
                            have hand := and168
                            have hc2' : w1.cell? ⟨rb, ro + (i + 2), none⟩ = some (.int .u8 168) := by
                              rw [hb1.cell (p := ⟨rb, ro + (i + 2), none⟩) hrb]
                              exact hc2
                            clear hD hbl hb1 hcw HSRC hc1 hc2
                            go_wp2_with (at_builtin; refine wpList_append_dst' _ rfl (.tmp 127) (.tmp 135) rfl rfl (hD2.out _) (hsz2.out _) _ _ _ eL8 rfl rfl (fun h => by cases h) hsrc.out hbd2.out ?_)
                            intro A2 c2 o2 w2 ho2 hD3 hb3
                            have hbl3 : Below w.heap.size w w2 := (HB2.out _).trans hb3
                            obtain ⟨hn1, hn2⟩ := HNEXT.out o2 ho2
                            have HN1 : Hid (o2 ++ seg R (i + 3) (i + 3) ++ esc1 true 0 true false (R.drop (i + 3)) = D ++ esc1 true 0 false false R) := hn1
                            have HN2 : Hid (o2.length = o1.length + 6) := hn2
                            clear ho2 hb3 hD2 hsz2 hsrc hbd2 HB2 HNEXT hn1 hn2 hand hc2'
                            go_wp2_with fail
                            go_roundg (n - (i + 3))
                            case measure => go_light; omega
                            case rel => go_light; exact ⟨i + 3, i + 3, o2, A2, c2, true, false, by omega, by omega, rfl, by go_num, by go_num, rfl, rfl, rfl, hD3, hbl3, HN1.out, by have := HN2.out; omega⟩
                          · have b168 : (c2 == 168) = false := beq_eq_false_iff_ne.2 h168
                            by_cases h169 : c2 = 169
                            · subst h169
                              clear h92 h34 h60 h62 h38 h168
                              go_wp2_with (at_builtin; refine wpList_append_dst' _ rfl (.tmp 121) (.tmp 125) rfl rfl hD hbs _ _ _ (seg R a i) rfl HL.out.symm (fun h => by cases h) HSRC.out HBD.out ?_)
                              intro A1 c1 o1 w1 ho1 hD1 hb1
                              have hbl1 : Below w.heap.size w w1 := hbl.trans hb1
                              have hs1 := hbl1.size
                              have hlen1 : o1.length ≤ D.length + 6 * i := by rw [← ho1, List.length_append, HL.out]; omega
                              have HO1 : Hid (out ++ seg R a i = o1) := ho1
                              clear ho1
                              have hD2 : Hid (∀ ob, Dst w.heap.size (w1.alloc ob) A1 c1 o1) := fun ob => hD1.keep ((Below.refl _ _).alloc (Nat.le_refl _) ob) hs1
                              have hsz2 : Hid (∀ ob, w.heap.size ≤ (w1.alloc ob).heap.size) := fun ob => by show w.heap.size ≤ (w1.heap.push ob).size; simp; omega
                              have hsrc : Hid (∀ ad, (some ⟨w1.heap.size, 0, none⟩ : Option Addr) = some ad → ∀ j u, (ucells eL9)[j]? = some u → (w1.alloc (.cells #[.int .u8 92, .int .u8 117, .int .u8 50, .int .u8 48, .int .u8 50, .int .u8 57] 5)).cell? (ad.add j) = some u) := new_src w1 eL9 _ rfl
                              have hbd2 : Hid (o1.length + eL9.length ≤ 1073741824) := by show o1.length + 6 ≤ _; omega
                              have HB2 : Hid (∀ ob, Below w.heap.size w (w1.alloc ob)) := fun ob => hbl1.alloc hs1 ob
                              have HNEXT : Hid (∀ o2, o1 ++ eL9 = o2 → o2 ++ seg R (i + 3) (i + 3) ++ esc1 true 0 true false (R.drop (i + 3)) = D ++ esc1 true 0 false false R ∧ o2.length = o1.length + 6) := fun o2 h2 => by
                                refine ⟨?_, by rw [← h2, List.length_append]; rfl⟩
                                rw [← HRES.out, HDR.out, seg_nil, ← h2, ← HO1.out, HD3.out]
                                simp [esc1]
                              have hand := and169
                              have hc2' : w1.cell? ⟨rb, ro + (i + 2), none⟩ = some (.int .u8 169) := by
                                rw [hb1.cell (p := ⟨rb, ro + (i + 2), none⟩) hrb]
                                exact hc2
                              clear hD hbl hb1 hcw HSRC hc1 hc2
                              go_wp2_with (at_builtin; refine wpList_append_dst' _ rfl (.tmp 127) (.tmp 135) rfl rfl (hD2.out _) (hsz2.out _) _ _ _ eL9 rfl rfl (fun h => by cases h) hsrc.out hbd2.out ?_)
                              intro A2 c2 o2 w2 ho2 hD3 hb3
                              have hbl3 : Below w.heap.size w w2 := (HB2.out _).trans hb3
                              obtain ⟨hn1, hn2⟩ := HNEXT.out o2 ho2
                              have HN1 : Hid (o2 ++ seg R (i + 3) (i + 3) ++ esc1 true 0 true false (R.drop (i + 3)) = D ++ esc1 true 0 false false R) := hn1
                              have HN2 : Hid (o2.length = o1.length + 6) := hn2
                              clear ho2 hb3 hD2 hsz2 hsrc hbd2 HB2 HNEXT hn1 hn2 hand hc2'
                              go_wp2_with fail
                              go_roundg (n - (i + 3))
                              case measure => go_light; omega
                              case rel => go_light; exact ⟨i + 3, i + 3, o2, A2, c2, true, false, by omega, by omega, rfl, by go_num, by go_num, rfl, rfl, rfl, hD3, hbl3, HN1.out, by have := HN2.out; omega⟩
                            · have b169 : (c2 == 169) = false := beq_eq_false_iff_ne.2 h169
                              have HNEXT : Hid (out ++ seg R a (i + 1) ++ esc1 true 0 true false (R.drop (i + 1)) = D ++ esc1 true 0 false false R) := by
                                show _ = _
                                rw [← HRES.out, HDR.out, seg_succ ha (by have := HN.out; omega), HCC.out]
                                simp [esc1, HT.out, h168, h169]
                              clear h92 h34 h60 h62 h38 h168 h169
                              go_wp2_with fail
                              go_roundg (n - (i + 1))
                              case measure => go_light; omega
                              case rel => go_light; exact ⟨i + 1, a, out, Ao, co, true, false, by omega, by omega, rfl, by go_num, rfl, rfl, rfl, rfl, hD, hbl, HNEXT.out, by omega⟩
                        · have b128 : (c1 == 128) = false := beq_eq_false_iff_ne.2 h128
                          have HNEXT : Hid (out ++ seg R a (i + 1) ++ esc1 true 0 true false (R.drop (i + 1)) = D ++ esc1 true 0 false false R) := by
                            show _ = _
                            rw [← HRES.out, HDR.out, seg_succ ha (by have := HN.out; omega), HCC.out]
                            simp [esc1, HT.out, h128]
                          clear h92 h34 h60 h62 h38 h128
                          go_wp2_with fail
                          go_roundg (n - (i + 1))
                          case measure => go_light; omega
                          case rel => go_light; exact ⟨i + 1, a, out, Ao, co, true, false, by omega, by omega, rfl, by go_num, rfl, rfl, rfl, rfl, hD, hbl, HNEXT.out, by omega⟩
                      · have hz4 : ¬ (i : Int) + 2 < (n : Int) := by omega
                        have HS2 : Hid (∀ x y, (R.drop (i + 1)).take 2 ≠ [x, y]) := take2_short (by have := HN.out; omega)
                        clear hi2
                        have HNEXT : Hid (out ++ seg R a (i + 1) ++ esc1 true 0 true false (R.drop (i + 1)) = D ++ esc1 true 0 false false R) := by
                          show _ = _
                          rw [← HRES.out, HDR.out, seg_succ ha (by have := HN.out; omega), HCC.out]
                          simp [esc1, HS2.out 128 168, HS2.out 128 169]
                        clear h92 h34 h60 h62 h38
                        go_wp2_with fail
                        go_roundg (n - (i + 1))
                        case measure => go_light; omega
                        case rel => go_light; exact ⟨i + 1, a, out, Ao, co, true, false, by omega, by omega, rfl, by go_num, rfl, rfl, rfl, rfl, hD, hbl, HNEXT.out, by omega⟩
                    · have b226 : (cc == 226) = false := beq_eq_false_iff_ne.2 h226
                      have HNEXT : Hid (out ++ seg R a (i + 1) ++ esc1 true 0 true false (R.drop (i + 1)) = D ++ esc1 true 0 false false R) := by
                        show _ = _
                        rw [← HRES.out, HDR.out, seg_succ ha (by have := HN.out; omega), HCC.out]
                        simp [esc1, h92, h34, h60, h62, h38, h226]
                      clear h92 h34 h60 h62 h38 h226
                      go_wp2_with fail
                      go_roundg (n - (i + 1))
                      case measure => go_light; omega
                      case rel => go_light; exact ⟨i + 1, a, out, Ao, co, true, false, by omega, by omega, rfl, by go_num, rfl, rfl, rfl, rfl, hD, hbl, HNEXT.out, by omega⟩
    · have hz1 : ¬ (i : Int) < (n : Int) := by omega
      obtain rfl : n = i := by omega
      have HALL : Hid (∀ j, j < n → wr.cell? ⟨rb, ro + j, none⟩ = some (.int .u8 (R.getD j 0))) := fun j hj => by
        rw [hbl.cell (p := ⟨rb, ro + j, none⟩) (World.block_lt_of_cell? _ _ (HZ.out j hj))]
        exact HZ.out j hj
      have HL : Hid ((seg R a n).length = n - a) := seg_len ha (by have := HN.out; omega)
      have HBD : Hid (out.length + (seg R a n).length ≤ 1073741824) := by show _ ≤ _; rw [HL.out]; omega
      have hbs := hbl.size
      have HF : Hid (out ++ seg R a n = D ++ esc1 true 0 false false R) := by
        show _ = _
        rw [← HRES.out, List.drop_of_length_le (by have := HN.out; omega)]
        cases s <;> cases e <;> simp [esc1]
      clear hnR
      by_cases hac : a < cr
      · have hz2 : (a : Int) < (cr : Int) := by omega
        have hz3 : (a : Int) ≤ (n : Int) := by omega
        have HSRC : Hid (∀ ad, (some ⟨rb, ro + a, none⟩ : Option Addr) = some ad → ∀ j u, (ucells (seg R a n))[j]? = some u → wr.cell? (ad.add j) = some u) := seg_src HN.out HALL.out ha (Nat.le_refl _)
        go_wp2_with (at_builtin; refine wpList_append_dst' _ rfl (.tmp 141) (.tmp 144) rfl rfl hD hbs _ _ _ (seg R a n) rfl HL.out.symm (fun h => by cases h) HSRC.out HBD.out ?_)
        intro A1 c1 o1 w1 ho1 hD1 hb1
        have hbl1 : Below w.heap.size w w1 := hbl.trans hb1
        have hR : PassR w (D ++ esc1 true 0 false false R) (.returned (.slice A1 o1.length c1)) w1 := by
          rw [← HF.out, ho1]
          exact ⟨A1, c1, rfl, hD1, hbl1⟩
        clear ho1 hD1 hb1
        go_wp2_with fail
        go_ret
        exact hR
      · obtain rfl : a = cr := by omega
        obtain rfl : n = a := by omega
        have HSRC : Hid (∀ ad, (some ⟨rb, ro, none⟩ : Option Addr) = some ad → ∀ j u, (ucells (seg R n n))[j]? = some u → wr.cell? (ad.add j) = some u) := fun ad _ j u hu => by
          rw [seg_nil] at hu
          simp [ucells] at hu
        go_wp2_with (at_builtin; refine wpList_append_dst' _ rfl (.tmp 141) (.tmp 144) rfl rfl hD hbs _ _ _ (seg R n n) rfl (by rw [HL.out]; omega) (fun h => by cases h) HSRC.out HBD.out ?_)
        intro A1 c1 o1 w1 ho1 hD1 hb1
        have hbl1 : Below w.heap.size w w1 := hbl.trans hb1
        have hR : PassR w (D ++ esc1 true 0 false false R) (.returned (.slice A1 o1.length c1)) w1 := by
          rw [← HF.out, ho1]
          exact ⟨A1, c1, rfl, hD1, hbl1⟩
        clear ho1 hD1 hb1
        go_wp2_with fail
        go_ret
        exact hR
end Go.Proofs.Qxb6602824a
