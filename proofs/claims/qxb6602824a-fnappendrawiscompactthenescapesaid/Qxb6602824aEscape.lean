import Derived.Test.Qxb6602824aCompact
namespace Go.Proofs.Qxb6602824a
open Go.RowKit

set_option maxHeartbeats 6400000 in
set_option maxRecDepth 100000 in
theorem escape_any (A : Option Addr) (N : Bool) (R : List Int) (c : Nat) (w : World) (hn : R.length ≤ 1048576) (h : Sl w (.slice A R.length c) N R.length (fun i => R.getD i 0)) :
    Calls Try.prog 21 #[.slice A R.length c] w fun e w' => PassR w (esc1 false 0 false false R) e w' := by
  obtain ⟨_, _, _, hz⟩ := sl_lit h
  have HZ : Hid (∀ i, i < R.length → ∃ b o, A = some ⟨b, o, none⟩ ∧ w.cell? ⟨b, o + i, none⟩ = some (.int .u8 (R.getD i 0))) := hz
  have hmk := run_make_out R.length (by omega)
  clear hz h
  generalize hnR : R.length = n at *
  go_enter Try.func21, Try.ntmps21
  go_wp2_with fail
  clear hmk
  have h0 := dst_made w n (by omega)
  have hb0 : Below w.heap.size w (w.alloc (.cells (madeCells #[.int .u8 0] n) 5)) := (Below.refl _ _).alloc (Nat.le_refl _) _
  go_loopg [3, 4, 5, 6] n (fun g so ss se si wr => ∃ (i : Nat) (out : List Int) (Ao : Option Addr) (co : Nat) (s e : Bool), i ≤ n ∧ g = n - i ∧ si = .int .i64 i ∧ ss = .bool s ∧ se = .bool e ∧ so = .slice Ao out.length co ∧ Dst w.heap.size wr Ao co out ∧ Below w.heap.size w wr ∧
    out ++ esc1 false 0 s e (R.drop i) = esc1 false 0 false false R ∧ out.length ≤ 6 * i)
  case atStart => exact ⟨0, [], _, n, false, false, Nat.zero_le _, rfl, rfl, rfl, rfl, rfl, h0, hb0, by simp, Nat.le_refl _⟩
  case round =>
    clear h0 hb0
    obtain ⟨i, out, Ao, co, s, e, hi, rfl, rfl, rfl, rfl, rfl, hD, hbl, hres, hol⟩ := hrel
    have HRES : Hid (out ++ esc1 false 0 s e (R.drop i) = esc1 false 0 false false R) := hres
    have HN : Hid (R.length = n) := hnR
    clear hres
    by_cases hlt : i < n
    · obtain ⟨b, o, rfl, hc⟩ := HZ.out i hlt
      have HALL : Hid (∀ j, j < n → wr.cell? ⟨b, o + j, none⟩ = some (.int .u8 (R.getD j 0))) := fun j hj => by
        obtain ⟨b', o', e', hc'⟩ := HZ.out j hj
        simp only [Option.some.injEq, Addr.mk.injEq, and_true] at e'
        obtain ⟨rfl, rfl⟩ := e'
        rw [hbl.cell (p := ⟨b, o + j, none⟩) (World.block_lt_of_cell? _ _ hc')]
        exact hc'
      have HDR : Hid (R.drop i = R.getD i 0 :: R.drop (i + 1)) := drop_at (by omega)
      obtain ⟨cc, hcc⟩ : ∃ cc, R.getD i 0 = cc := ⟨_, rfl⟩
      have hcw := HALL.out i hlt
      rw [hcc] at hcw HDR
      have hz1 : (i : Int) < (n : Int) := by omega
      have hbs := hbl.size
      have hD1 : Hid (∀ ob, Dst w.heap.size (wr.alloc ob) Ao co out) := fun ob => hD.keep ((Below.refl _ _).alloc (Nat.le_refl _) ob) hbs
      have hbl1 : Hid (∀ ob, Below w.heap.size w (wr.alloc ob)) := fun ob => hbl.alloc hbs ob
      clear hc hcc hnR
      cases s with
      | false =>
        have HNEXT : Hid ((out ++ [cc]) ++ esc1 false 0 (cc == 34) e (R.drop (i + 1)) = esc1 false 0 false false R) := by
          show _ = _
          rw [← HRES.out, HDR.out]
          simp [esc1]
        have hsrc : Hid (∀ ad, (some ⟨wr.heap.size, 0, none⟩ : Option Addr) = some ad → ∀ j u, (ucells [cc])[j]? = some u → (wr.alloc (.cells #[.int .u8 cc] 5)).cell? (ad.add j) = some u) := new_src wr [cc] _ rfl
        go_wp2_with (at_builtin; refine wpList_append_dst _ rfl (.tmp 23) (.tmp 25) rfl rfl (hD1.out _) (by simp; omega) _ _ _ [cc] rfl rfl (fun h => by cases h) hsrc.out ?_ ?_)
        · first | omega | (simp; omega)
        · intro A' c'' w' hD' hb'
          have hbl' : Below w.heap.size w w' := (hbl1.out _).trans hb'
          clear hD hD1 hbl hbl1 hb' hsrc hcw
          go_wp2_with fail
          go_roundg (n - (i + 1))
          case measure => go_light; omega
          case rel => go_light; exact ⟨i + 1, out ++ [cc], A', c'', (cc == 34), e, by omega, rfl, by go_num, rfl, rfl, by simp, hD', hbl', HNEXT.out, by simp; omega⟩
      | true =>
        cases e with
        | true =>
          have HNEXT : Hid ((out ++ [cc]) ++ esc1 false 0 true false (R.drop (i + 1)) = esc1 false 0 false false R) := by
            show _ = _
            rw [← HRES.out, HDR.out]
            simp [esc1]
          have hsrc : Hid (∀ ad, (some ⟨wr.heap.size, 0, none⟩ : Option Addr) = some ad → ∀ j u, (ucells [cc])[j]? = some u → (wr.alloc (.cells #[.int .u8 cc] 5)).cell? (ad.add j) = some u) := new_src wr [cc] _ rfl
          go_wp2_with (at_builtin; refine wpList_append_dst _ rfl (.tmp 30) (.tmp 32) rfl rfl (hD1.out _) (by simp; omega) _ _ _ [cc] rfl rfl (fun h => by cases h) hsrc.out ?_ ?_)
          · first | omega | (simp; omega)
          · intro A' c'' w' hD' hb'
            have hbl' : Below w.heap.size w w' := (hbl1.out _).trans hb'
            clear hD hD1 hbl hbl1 hb' hsrc hcw
            go_wp2_with fail
            go_roundg (n - (i + 1))
            case measure => go_light; omega
            case rel => go_light; exact ⟨i + 1, out ++ [cc], A', c'', true, false, by omega, rfl, by go_num, rfl, rfl, by simp, hD', hbl', HNEXT.out, by simp; omega⟩
        | false =>
          by_cases h92 : cc = 92
          · subst h92
            have HNEXT : Hid ((out ++ [92]) ++ esc1 false 0 true true (R.drop (i + 1)) = esc1 false 0 false false R) := by
              show _ = _
              rw [← HRES.out, HDR.out]
              simp [esc1]
            have hsrc : Hid (∀ ad, (some ⟨wr.heap.size, 0, none⟩ : Option Addr) = some ad → ∀ j u, (ucells [92])[j]? = some u → (wr.alloc (.cells #[.int .u8 92] 5)).cell? (ad.add j) = some u) := new_src wr [92] _ rfl
            go_wp2_with (at_builtin; refine wpList_append_dst _ rfl (.tmp 41) (.tmp 43) rfl rfl (hD1.out _) (by simp; omega) _ _ _ [92] rfl rfl (fun h => by cases h) hsrc.out ?_ ?_)
            · first | omega | (simp; omega)
            · intro A' c'' w' hD' hb'
              have hbl' : Below w.heap.size w w' := (hbl1.out _).trans hb'
              clear hD hD1 hbl hbl1 hb' hsrc hcw
              go_wp2_with fail
              go_roundg (n - (i + 1))
              case measure => go_light; omega
              case rel => go_light; exact ⟨i + 1, out ++ [92], A', c'', true, true, by omega, rfl, by go_num, rfl, rfl, by simp, hD', hbl', HNEXT.out, by simp; omega⟩
          · have b92 : (cc == 92) = false := beq_eq_false_iff_ne.2 h92
            by_cases h34 : cc = 34
            · subst h34
              have HNEXT : Hid ((out ++ [34]) ++ esc1 false 0 false false (R.drop (i + 1)) = esc1 false 0 false false R) := by
                show _ = _
                rw [← HRES.out, HDR.out]
                simp [esc1]
              have hsrc : Hid (∀ ad, (some ⟨wr.heap.size, 0, none⟩ : Option Addr) = some ad → ∀ j u, (ucells [34])[j]? = some u → (wr.alloc (.cells #[.int .u8 34] 5)).cell? (ad.add j) = some u) := new_src wr [34] _ rfl
              clear h92
              go_wp2_with (at_builtin; refine wpList_append_dst _ rfl (.tmp 48) (.tmp 50) rfl rfl (hD1.out _) (by simp; omega) _ _ _ [34] rfl rfl (fun h => by cases h) hsrc.out ?_ ?_)
              · first | omega | (simp; omega)
              · intro A' c'' w' hD' hb'
                have hbl' : Below w.heap.size w w' := (hbl1.out _).trans hb'
                clear hD hD1 hbl hbl1 hb' hsrc hcw
                go_wp2_with fail
                go_roundg (n - (i + 1))
                case measure => go_light; omega
                case rel => go_light; exact ⟨i + 1, out ++ [34], A', c'', false, false, by omega, rfl, by go_num, rfl, rfl, by simp, hD', hbl', HNEXT.out, by simp; omega⟩
            · have b34 : (cc == 34) = false := beq_eq_false_iff_ne.2 h34
              by_cases h60 : cc = 60
              · subst h60
                have HNEXT : Hid ((out ++ eLt) ++ esc1 false 0 true false (R.drop (i + 1)) = esc1 false 0 false false R) := by
                  show _ = _
                  rw [← HRES.out, HDR.out]
                  simp [esc1]
                have hsrc : Hid (∀ ad, (some ⟨wr.heap.size, 0, none⟩ : Option Addr) = some ad → ∀ j u, (ucells eLt)[j]? = some u → (wr.alloc (.cells #[.int .u8 92, .int .u8 117, .int .u8 48, .int .u8 48, .int .u8 51, .int .u8 99] 5)).cell? (ad.add j) = some u) := new_src wr eLt _ rfl
                clear h92 h34
                go_wp2_with (at_builtin; refine wpList_append_dst _ rfl (.tmp 55) (.tmp 56) rfl rfl (hD1.out _) (by simp; omega) _ _ _ eLt rfl rfl (fun h => by cases h) hsrc.out ?_ ?_)
                · first | omega | (simp [eLt]; omega)
                · intro A' c'' w' hD' hb'
                  have hbl' : Below w.heap.size w w' := (hbl1.out _).trans hb'
                  clear hD hD1 hbl hbl1 hb' hsrc hcw
                  go_wp2_with fail
                  go_roundg (n - (i + 1))
                  case measure => go_light; omega
                  case rel => go_light; exact ⟨i + 1, out ++ eLt, A', c'', true, false, by omega, rfl, by go_num, rfl, rfl, by simp [eLt], hD', hbl', HNEXT.out, by simp [eLt]; omega⟩
              · have b60 : (cc == 60) = false := beq_eq_false_iff_ne.2 h60
                by_cases h62 : cc = 62
                · subst h62
                  have HNEXT : Hid ((out ++ eGt) ++ esc1 false 0 true false (R.drop (i + 1)) = esc1 false 0 false false R) := by
                    show _ = _
                    rw [← HRES.out, HDR.out]
                    simp [esc1]
                  have hsrc : Hid (∀ ad, (some ⟨wr.heap.size, 0, none⟩ : Option Addr) = some ad → ∀ j u, (ucells eGt)[j]? = some u → (wr.alloc (.cells #[.int .u8 92, .int .u8 117, .int .u8 48, .int .u8 48, .int .u8 51, .int .u8 101] 5)).cell? (ad.add j) = some u) := new_src wr eGt _ rfl
                  clear h92 h34 h60
                  go_wp2_with (at_builtin; refine wpList_append_dst _ rfl (.tmp 61) (.tmp 62) rfl rfl (hD1.out _) (by simp; omega) _ _ _ eGt rfl rfl (fun h => by cases h) hsrc.out ?_ ?_)
                  · first | omega | (simp [eGt]; omega)
                  · intro A' c'' w' hD' hb'
                    have hbl' : Below w.heap.size w w' := (hbl1.out _).trans hb'
                    clear hD hD1 hbl hbl1 hb' hsrc hcw
                    go_wp2_with fail
                    go_roundg (n - (i + 1))
                    case measure => go_light; omega
                    case rel => go_light; exact ⟨i + 1, out ++ eGt, A', c'', true, false, by omega, rfl, by go_num, rfl, rfl, by simp [eGt], hD', hbl', HNEXT.out, by simp [eGt]; omega⟩
                · have b62 : (cc == 62) = false := beq_eq_false_iff_ne.2 h62
                  by_cases h38 : cc = 38
                  · subst h38
                    have HNEXT : Hid ((out ++ eAm) ++ esc1 false 0 true false (R.drop (i + 1)) = esc1 false 0 false false R) := by
                      show _ = _
                      rw [← HRES.out, HDR.out]
                      simp [esc1]
                    have hsrc : Hid (∀ ad, (some ⟨wr.heap.size, 0, none⟩ : Option Addr) = some ad → ∀ j u, (ucells eAm)[j]? = some u → (wr.alloc (.cells #[.int .u8 92, .int .u8 117, .int .u8 48, .int .u8 48, .int .u8 50, .int .u8 54] 5)).cell? (ad.add j) = some u) := new_src wr eAm _ rfl
                    clear h92 h34 h60 h62
                    go_wp2_with (at_builtin; refine wpList_append_dst _ rfl (.tmp 67) (.tmp 68) rfl rfl (hD1.out _) (by simp; omega) _ _ _ eAm rfl rfl (fun h => by cases h) hsrc.out ?_ ?_)
                    · first | omega | (simp [eAm]; omega)
                    · intro A' c'' w' hD' hb'
                      have hbl' : Below w.heap.size w w' := (hbl1.out _).trans hb'
                      clear hD hD1 hbl hbl1 hb' hsrc hcw
                      go_wp2_with fail
                      go_roundg (n - (i + 1))
                      case measure => go_light; omega
                      case rel => go_light; exact ⟨i + 1, out ++ eAm, A', c'', true, false, by omega, rfl, by go_num, rfl, rfl, by simp [eAm], hD', hbl', HNEXT.out, by simp [eAm]; omega⟩
                  · have b38 : (cc == 38) = false := beq_eq_false_iff_ne.2 h38
                    by_cases h226 : cc = 226
                    · subst h226
                      by_cases hi2 : i + 2 < n
                      · have hz2 : (i : Int) + 2 < (n : Int) := by omega
                        have ht1 : ((i : Int) + 1).toNat = i + 1 := by omega
                        have ht2 : ((i : Int) + 2).toNat = i + 2 := by omega
                        have hz3 : (i : Int) + 1 < (n : Int) := by omega
                        have HT : Hid ((R.drop (i + 1)).take 2 = [R.getD (i + 1) 0, R.getD (i + 2) 0]) := take2_at (by have := HN.out; omega)
                        have HD3 : Hid (R.drop (i + 1) = R.getD (i + 1) 0 :: R.getD (i + 2) 0 :: R.drop (i + 3)) := by
                          show _ = _
                          rw [drop_at (show i + 1 < R.length by have := HN.out; omega), drop_at (show i + 1 + 1 < R.length by have := HN.out; omega)]
                        have hc1 := HALL.out (i + 1) (by omega)
                        have hc2 := HALL.out (i + 2) (by omega)
                        obtain ⟨c1, hcc1⟩ : ∃ c1, R.getD (i + 1) 0 = c1 := ⟨_, rfl⟩
                        obtain ⟨c2, hcc2⟩ : ∃ c2, R.getD (i + 2) 0 = c2 := ⟨_, rfl⟩
                        rw [hcc1] at hc1 HT HD3
                        rw [hcc2] at hc2 HT HD3
                        clear hcc1 hcc2
                        by_cases h128 : c1 = 128
                        · subst h128
                          by_cases h168 : c2 = 168
                          · subst h168
                            have HNEXT : Hid ((out ++ eL8) ++ esc1 false 0 true false (R.drop (i + 3)) = esc1 false 0 false false R) := by
                              show _ = _
                              rw [← HRES.out, HDR.out]
                              rw [HD3.out]
                              simp [esc1]
                            have hsrc : Hid (∀ ad, (some ⟨wr.heap.size, 0, none⟩ : Option Addr) = some ad → ∀ j u, (ucells eL8)[j]? = some u → (wr.alloc (.cells #[.int .u8 92, .int .u8 117, .int .u8 50, .int .u8 48, .int .u8 50, .int .u8 56] 5)).cell? (ad.add j) = some u) := new_src wr eL8 _ rfl
                            clear h92 h34 h60 h62 h38
                            go_wp2_with (at_builtin; refine wpList_append_dst _ rfl (.tmp 96) (.tmp 97) rfl rfl (hD1.out _) (by simp; omega) _ _ _ eL8 rfl rfl (fun h => by cases h) hsrc.out ?_ ?_)
                            · first | omega | (simp [eL8]; omega)
                            · intro A' c'' w' hD' hb'
                              have hbl' : Below w.heap.size w w' := (hbl1.out _).trans hb'
                              clear hD hD1 hbl hbl1 hb' hsrc hcw
                              go_wp2_with fail
                              go_roundg (n - (i + 3))
                              case measure => go_light; omega
                              case rel => go_light; exact ⟨i + 3, out ++ eL8, A', c'', true, false, by omega, rfl, by go_num, rfl, rfl, by simp [eL8], hD', hbl', HNEXT.out, by simp [eL8]; omega⟩
                          · have b168 : (c2 == 168) = false := beq_eq_false_iff_ne.2 h168
                            by_cases h169 : c2 = 169
                            · subst h169
                              have HNEXT : Hid ((out ++ eL9) ++ esc1 false 0 true false (R.drop (i + 3)) = esc1 false 0 false false R) := by
                                show _ = _
                                rw [← HRES.out, HDR.out]
                                rw [HD3.out]
                                simp [esc1]
                              have hsrc : Hid (∀ ad, (some ⟨wr.heap.size, 0, none⟩ : Option Addr) = some ad → ∀ j u, (ucells eL9)[j]? = some u → (wr.alloc (.cells #[.int .u8 92, .int .u8 117, .int .u8 50, .int .u8 48, .int .u8 50, .int .u8 57] 5)).cell? (ad.add j) = some u) := new_src wr eL9 _ rfl
                              clear h92 h34 h60 h62 h38 h168
                              go_wp2_with (at_builtin; refine wpList_append_dst _ rfl (.tmp 127) (.tmp 128) rfl rfl (hD1.out _) (by simp; omega) _ _ _ eL9 rfl rfl (fun h => by cases h) hsrc.out ?_ ?_)
                              · first | omega | (simp [eL9]; omega)
                              · intro A' c'' w' hD' hb'
                                have hbl' : Below w.heap.size w w' := (hbl1.out _).trans hb'
                                clear hD hD1 hbl hbl1 hb' hsrc hcw
                                go_wp2_with fail
                                go_roundg (n - (i + 3))
                                case measure => go_light; omega
                                case rel => go_light; exact ⟨i + 3, out ++ eL9, A', c'', true, false, by omega, rfl, by go_num, rfl, rfl, by simp [eL9], hD', hbl', HNEXT.out, by simp [eL9]; omega⟩
                            · have b169 : (c2 == 169) = false := beq_eq_false_iff_ne.2 h169
                              have HNEXT : Hid ((out ++ [226]) ++ esc1 false 0 true false (R.drop (i + 1)) = esc1 false 0 false false R) := by
                                show _ = _
                                rw [← HRES.out, HDR.out]
                                simp [esc1, HT.out, h168, h169]
                              have hsrc : Hid (∀ ad, (some ⟨wr.heap.size, 0, none⟩ : Option Addr) = some ad → ∀ j u, (ucells [226])[j]? = some u → (wr.alloc (.cells #[.int .u8 226] 5)).cell? (ad.add j) = some u) := new_src wr [226] _ rfl
                              clear h92 h34 h60 h62 h38 h168 h169
                              go_wp2_with (at_builtin; refine wpList_append_dst _ rfl (.tmp 34) (.tmp 36) rfl rfl (hD1.out _) (by simp; omega) _ _ _ [226] rfl rfl (fun h => by cases h) hsrc.out ?_ ?_)
                              · first | omega | (simp; omega)
                              · intro A' c'' w' hD' hb'
                                have hbl' : Below w.heap.size w w' := (hbl1.out _).trans hb'
                                clear hD hD1 hbl hbl1 hb' hsrc hcw
                                go_wp2_with fail
                                go_roundg (n - (i + 1))
                                case measure => go_light; omega
                                case rel => go_light; exact ⟨i + 1, out ++ [226], A', c'', true, false, by omega, rfl, by go_num, rfl, rfl, by simp, hD', hbl', HNEXT.out, by simp; omega⟩
                        · have b128 : (c1 == 128) = false := beq_eq_false_iff_ne.2 h128
                          have HNEXT : Hid ((out ++ [226]) ++ esc1 false 0 true false (R.drop (i + 1)) = esc1 false 0 false false R) := by
                            show _ = _
                            rw [← HRES.out, HDR.out]
                            simp [esc1, HT.out, h128]
                          have hsrc : Hid (∀ ad, (some ⟨wr.heap.size, 0, none⟩ : Option Addr) = some ad → ∀ j u, (ucells [226])[j]? = some u → (wr.alloc (.cells #[.int .u8 226] 5)).cell? (ad.add j) = some u) := new_src wr [226] _ rfl
                          clear h92 h34 h60 h62 h38 h128
                          go_wp2_with (at_builtin; refine wpList_append_dst _ rfl (.tmp 34) (.tmp 36) rfl rfl (hD1.out _) (by simp; omega) _ _ _ [226] rfl rfl (fun h => by cases h) hsrc.out ?_ ?_)
                          · first | omega | (simp; omega)
                          · intro A' c'' w' hD' hb'
                            have hbl' : Below w.heap.size w w' := (hbl1.out _).trans hb'
                            clear hD hD1 hbl hbl1 hb' hsrc hcw
                            go_wp2_with fail
                            go_roundg (n - (i + 1))
                            case measure => go_light; omega
                            case rel => go_light; exact ⟨i + 1, out ++ [226], A', c'', true, false, by omega, rfl, by go_num, rfl, rfl, by simp, hD', hbl', HNEXT.out, by simp; omega⟩
                      · have hz2 : ¬ (i : Int) + 2 < (n : Int) := by omega
                        have HS2 : Hid (∀ x y, (R.drop (i + 1)).take 2 ≠ [x, y]) := take2_short (by have := HN.out; omega)
                        clear hi2
                        have HNEXT : Hid ((out ++ [226]) ++ esc1 false 0 true false (R.drop (i + 1)) = esc1 false 0 false false R) := by
                          show _ = _
                          rw [← HRES.out, HDR.out]
                          simp [esc1, HS2.out 128 168, HS2.out 128 169]
                        have hsrc : Hid (∀ ad, (some ⟨wr.heap.size, 0, none⟩ : Option Addr) = some ad → ∀ j u, (ucells [226])[j]? = some u → (wr.alloc (.cells #[.int .u8 226] 5)).cell? (ad.add j) = some u) := new_src wr [226] _ rfl
                        clear h92 h34 h60 h62 h38
                        go_wp2_with (at_builtin; refine wpList_append_dst _ rfl (.tmp 34) (.tmp 36) rfl rfl (hD1.out _) (by simp; omega) _ _ _ [226] rfl rfl (fun h => by cases h) hsrc.out ?_ ?_)
                        · first | omega | (simp; omega)
                        · intro A' c'' w' hD' hb'
                          have hbl' : Below w.heap.size w w' := (hbl1.out _).trans hb'
                          clear hD hD1 hbl hbl1 hb' hsrc hcw
                          go_wp2_with fail
                          go_roundg (n - (i + 1))
                          case measure => go_light; omega
                          case rel => go_light; exact ⟨i + 1, out ++ [226], A', c'', true, false, by omega, rfl, by go_num, rfl, rfl, by simp, hD', hbl', HNEXT.out, by simp; omega⟩
                    · have b226 : (cc == 226) = false := beq_eq_false_iff_ne.2 h226
                      have HNEXT : Hid ((out ++ [cc]) ++ esc1 false 0 true false (R.drop (i + 1)) = esc1 false 0 false false R) := by
                        show _ = _
                        rw [← HRES.out, HDR.out]
                        simp [esc1, h92, h34, h60, h62, h38, h226]
                      have hsrc : Hid (∀ ad, (some ⟨wr.heap.size, 0, none⟩ : Option Addr) = some ad → ∀ j u, (ucells [cc])[j]? = some u → (wr.alloc (.cells #[.int .u8 cc] 5)).cell? (ad.add j) = some u) := new_src wr [cc] _ rfl
                      clear h92 h34 h60 h62 h38 h226
                      go_wp2_with (at_builtin; refine wpList_append_dst _ rfl (.tmp 34) (.tmp 36) rfl rfl (hD1.out _) (by simp; omega) _ _ _ [cc] rfl rfl (fun h => by cases h) hsrc.out ?_ ?_)
                      · first | omega | (simp; omega)
                      · intro A' c'' w' hD' hb'
                        have hbl' : Below w.heap.size w w' := (hbl1.out _).trans hb'
                        clear hD hD1 hbl hbl1 hb' hsrc hcw
                        go_wp2_with fail
                        go_roundg (n - (i + 1))
                        case measure => go_light; omega
                        case rel => go_light; exact ⟨i + 1, out ++ [cc], A', c'', true, false, by omega, rfl, by go_num, rfl, rfl, by simp, hD', hbl', HNEXT.out, by simp; omega⟩
    · have hz1 : ¬ (i : Int) < (n : Int) := by omega
      have HF : Hid (out = esc1 false 0 false false R) := by
        show _ = _
        rw [← HRES.out, List.drop_of_length_le (by have := HN.out; omega)]
        cases s <;> cases e <;> simp [esc1]
      have hR : PassR w (esc1 false 0 false false R) (.returned (.slice Ao out.length co)) wr := by
        rw [← HF.out]
        exact ⟨Ao, co, rfl, hD, hbl⟩
      clear hnR
      go_wp2_with fail
      go_ret
      exact hR
end Go.Proofs.Qxb6602824a
