import Derived.Test.Qxb6602824aDst
import Derived.Test.Qxb6602824aEscDef
namespace Go.Proofs.Qxb6602824a
open Go.RowKit

theorem new_src (w : World) (xs : List Int) (cs : Array Value) (h : cs = (ucells xs).toArray) : ∀ ad, (some ⟨w.heap.size, 0, none⟩ : Option Addr) = some ad → ∀ j u, (ucells xs)[j]? = some u → (w.alloc (.cells cs 5)).cell? (ad.add j) = some u := by
  intro ad e j u hu
  subst h
  obtain rfl := Option.some.inj e
  rw [Go.WideShapes.add_plain, Nat.zero_add, World.cell?_alloc_new]
  simpa using hu

theorem run_make_out (S : Nat) (hS : S ≤ 4194304) (w : World) :
    (Instr.makeSlice 22 (.int .i64 0) (.int .i64 (S : Int))).run Try.prog w = .ok (.slice (some ⟨w.heap.size, 0, none⟩) 0 S) (w.alloc (.cells (madeCells #[.int .u8 0] S) 5)) := by
  obtain ⟨i, hi, hz, hs, hb⟩ := info_parts Try.info5
  have hr := run_make (P := Try.prog) w 22 5 i _ Try.underlying22 hi hz .i64 .i64 0 S (by omega) (by omega) (by rw [hb]; omega) (by omega)
  simp only [Int.toNat_natCast, hs, Nat.mul_one] at hr
  exact hr

theorem dst_made (w : World) (S : Nat) (hS : S ≤ 4194304) : Dst w.heap.size (w.alloc (.cells (madeCells #[.int .u8 0] S) 5)) (some ⟨w.heap.size, 0, none⟩) S [] :=
  .inr (World.ownsRow_made w _ _ (Nat.le_refl _) (by unfold maxLen; omega) (by rw [size_madeCells]; omega))

theorem isSpace_any (c : Int) (w : World) : Calls Try.prog 23 #[.int .u8 c] w fun e w' => e = .returned (.bool (sp c)) ∧ w' = w := by
  by_cases h1 : c = 32
  · subst h1
    go_enter Try.func23, Try.ntmps23
    go_wp2
    go_ret
    exact ⟨rfl, rfl⟩
  by_cases h2 : c = 9
  · subst h2
    go_enter Try.func23, Try.ntmps23
    go_wp2
    go_ret
    exact ⟨rfl, rfl⟩
  by_cases h3 : c = 10
  · subst h3
    go_enter Try.func23, Try.ntmps23
    go_wp2
    go_ret
    exact ⟨rfl, rfl⟩
  by_cases h4 : c = 13
  · subst h4
    go_enter Try.func23, Try.ntmps23
    go_wp2
    go_ret
    exact ⟨rfl, rfl⟩
  have b1 : (c == 32) = false := beq_eq_false_iff_ne.2 h1
  have b2 : (c == 9) = false := beq_eq_false_iff_ne.2 h2
  have b3 : (c == 10) = false := beq_eq_false_iff_ne.2 h3
  have b4 : (c == 13) = false := beq_eq_false_iff_ne.2 h4
  have HS : Hid (sp c = false) := by show _ = _; simp [sp, b1, b2, b3, b4]
  clear h1 h2 h3 h4
  go_enter Try.func23, Try.ntmps23
  go_wp2
  go_ret
  exact ⟨by rw [HS.out]; rfl, rfl⟩

/-- What a pass hands back. -/
def PassR (w : World) (out : List Int) (e : Ending) (w' : World) : Prop := ∃ A c, e = .returned (.slice A out.length c) ∧ Dst w.heap.size w' A c out ∧ Below w.heap.size w w'

set_option maxHeartbeats 3200000 in
set_option maxRecDepth 100000 in
theorem compact_any (A : Option Addr) (N : Bool) (R : List Int) (c : Nat) (w : World) (hn : R.length ≤ 1048576) (h : Sl w (.slice A R.length c) N R.length (fun i => R.getD i 0)) :
    Calls Try.prog 22 #[.slice A R.length c] w fun e w' => PassR w (cmp false false R) e w' := by
  obtain ⟨_, _, _, hz⟩ := sl_lit h
  have HZ : Hid (∀ i, i < R.length → ∃ b o, A = some ⟨b, o, none⟩ ∧ w.cell? ⟨b, o + i, none⟩ = some (.int .u8 (R.getD i 0))) := hz
  have hmk := run_make_out R.length (by omega)
  clear hz h
  generalize hnR : R.length = n at *
  go_enter Try.func22, Try.ntmps22
  go_wp2_with fail
  clear hmk
  have h0 := dst_made w n (by omega)
  have hb0 : Below w.heap.size w (w.alloc (.cells (madeCells #[.int .u8 0] n) 5)) := (Below.refl _ _).alloc (Nat.le_refl _) _
  go_loopg [3, 4, 5, 6] n (fun g so ss se si wr => ∃ (i : Nat) (out : List Int) (Ao : Option Addr) (co : Nat) (s e : Bool), i ≤ n ∧ g = n - i ∧ si = .int .i64 i ∧ ss = .bool s ∧ se = .bool e ∧ so = .slice Ao out.length co ∧ Dst w.heap.size wr Ao co out ∧ Below w.heap.size w wr ∧
    out ++ cmp s e (R.drop i) = cmp false false R ∧ out.length ≤ i)
  case atStart => exact ⟨0, [], _, n, false, false, Nat.zero_le _, rfl, rfl, rfl, rfl, rfl, h0, hb0, by simp, Nat.le_refl _⟩
  case round =>
    clear h0 hb0
    obtain ⟨i, out, Ao, co, s, e, hi, rfl, rfl, rfl, rfl, rfl, hD, hbl, hres, hol⟩ := hrel
    have HRES : Hid (out ++ cmp s e (R.drop i) = cmp false false R) := hres
    have HN : Hid (R.length = n) := hnR
    clear hres
    by_cases hlt : i < n
    · obtain ⟨b, o, rfl, hc⟩ := HZ.out i hlt
      have HDR : Hid (R.drop i = R.getD i 0 :: R.drop (i + 1)) := drop_at (by omega)
      obtain ⟨cc, hcc⟩ : ∃ cc, R.getD i 0 = cc := ⟨_, rfl⟩
      rw [hcc] at hc HDR
      have hcw : wr.cell? ⟨b, o + i, none⟩ = some (.int .u8 cc) := by rw [hbl.cell (p := ⟨b, o + i, none⟩) (World.block_lt_of_cell? _ _ hc)]; exact hc
      have hz1 : (i : Int) < (n : Int) := by omega
      have hbs := hbl.size
      have hD1 : Hid (∀ ob, Dst w.heap.size (wr.alloc ob) Ao co out) := fun ob => hD.keep ((Below.refl _ _).alloc (Nat.le_refl _) ob) hbs
      have hsrc : Hid (∀ ad, (some ⟨wr.heap.size, 0, none⟩ : Option Addr) = some ad → ∀ j u, (ucells [cc])[j]? = some u → (wr.alloc (.cells #[.int .u8 cc] 5)).cell? (ad.add j) = some u) := new_src wr [cc] _ rfl
      have hbl1 : Hid (∀ ob, Below w.heap.size w (wr.alloc ob)) := fun ob => hbl.alloc hbs ob
      clear hc hcc hnR
      cases s with
      | false =>
        cases hsp : sp cc with
        | true =>
          have HNEXT : Hid (out ++ cmp false e (R.drop (i + 1)) = cmp false false R) := by
            show _ = _
            rw [← HRES.out, HDR.out]
            simp [cmp, hsp]
          go_wp2_with (go_at_call 23; refine (isSpace_any cc _).mono ?_; rintro e w' ⟨rfl, rfl⟩)
          go_roundg (n - (i + 1))
          case measure => go_light; omega
          case rel => go_light; exact ⟨i + 1, out, Ao, co, false, e, by omega, rfl, by simp, rfl, rfl, rfl, hD, hbl, HNEXT.out, by omega⟩
        | false =>
          have HNEXT : Hid ((out ++ [cc]) ++ cmp (cc == 34) e (R.drop (i + 1)) = cmp false false R) := by
            show _ = _
            rw [← HRES.out, HDR.out]
            simp [cmp, hsp]
          go_wp2_with (first | (go_at_call 23; refine (isSpace_any cc _).mono ?_; rintro e w' ⟨rfl, hw⟩; obtain rfl := hw.symm) | (at_builtin; refine wpList_append_dst _ rfl (.tmp 25) (.tmp 27) rfl rfl (hD1.out _) (by simp; omega) _ _ _ [cc] rfl rfl (fun h => by cases h) hsrc.out ?_ ?_))
          · simp; omega
          · intro A' c'' w' hD' hb'
            have hbl' : Below w.heap.size w w' := (hbl1.out _).trans hb'
            clear hD hD1 hbl hbl1 hb' hsrc hcw
            go_wp2_with fail
            go_roundg (n - (i + 1))
            case measure => go_light; omega
            case rel => go_light; exact ⟨i + 1, out ++ [cc], A', c'', (cc == 34), e, by omega, rfl, by simp, rfl, rfl, by simp, hD', hbl', HNEXT.out, by simp; omega⟩
      | true =>
        cases e with
        | true =>
          have HNEXT : Hid ((out ++ [cc]) ++ cmp true false (R.drop (i + 1)) = cmp false false R) := by
            show _ = _
            rw [← HRES.out, HDR.out]
            simp [cmp]
          go_wp2_with (at_builtin; refine wpList_append_dst _ rfl (.tmp 31) (.tmp 33) rfl rfl (hD1.out _) (by simp; omega) _ _ _ [cc] rfl rfl (fun h => by cases h) hsrc.out ?_ ?_)
          · simp; omega
          · intro A' c'' w' hD' hb'
            have hbl' : Below w.heap.size w w' := (hbl1.out _).trans hb'
            clear hD hD1 hbl hbl1 hb' hsrc hcw
            go_wp2_with fail
            go_roundg (n - (i + 1))
            case measure => go_light; omega
            case rel => go_light; exact ⟨i + 1, out ++ [cc], A', c'', true, false, by omega, rfl, by simp, rfl, rfl, by simp, hD', hbl', HNEXT.out, by simp; omega⟩
        | false =>
          by_cases h92 : cc = 92
          · subst h92
            have HNEXT : Hid ((out ++ [92]) ++ cmp true true (R.drop (i + 1)) = cmp false false R) := by
              show _ = _
              rw [← HRES.out, HDR.out]
              simp [cmp]
            go_wp2_with (at_builtin; refine wpList_append_dst _ rfl (.tmp 31) (.tmp 33) rfl rfl (hD1.out _) (by simp; omega) _ _ _ [92] rfl rfl (fun h => by cases h) hsrc.out ?_ ?_)
            · simp; omega
            · intro A' c'' w' hD' hb'
              have hbl' : Below w.heap.size w w' := (hbl1.out _).trans hb'
              clear hD hD1 hbl hbl1 hb' hsrc hcw
              go_wp2_with fail
              go_roundg (n - (i + 1))
              case measure => go_light; omega
              case rel => go_light; exact ⟨i + 1, out ++ [92], A', c'', true, true, by omega, rfl, by simp, rfl, rfl, by simp, hD', hbl', HNEXT.out, by simp; omega⟩
          · have b92 : (cc == 92) = false := beq_eq_false_iff_ne.2 h92
            by_cases h34 : cc = 34
            · subst h34
              have HNEXT : Hid ((out ++ [34]) ++ cmp false false (R.drop (i + 1)) = cmp false false R) := by
                show _ = _
                rw [← HRES.out, HDR.out]
                simp [cmp]
              clear h92
              go_wp2_with (at_builtin; refine wpList_append_dst _ rfl (.tmp 31) (.tmp 33) rfl rfl (hD1.out _) (by simp; omega) _ _ _ [34] rfl rfl (fun h => by cases h) hsrc.out ?_ ?_)
              · simp; omega
              · intro A' c'' w' hD' hb'
                have hbl' : Below w.heap.size w w' := (hbl1.out _).trans hb'
                clear hD hD1 hbl hbl1 hb' hsrc hcw
                go_wp2_with fail
                go_roundg (n - (i + 1))
                case measure => go_light; omega
                case rel => go_light; exact ⟨i + 1, out ++ [34], A', c'', false, false, by omega, rfl, by simp, rfl, rfl, by simp, hD', hbl', HNEXT.out, by simp; omega⟩
            · have b34 : (cc == 34) = false := beq_eq_false_iff_ne.2 h34
              have HNEXT : Hid ((out ++ [cc]) ++ cmp true false (R.drop (i + 1)) = cmp false false R) := by
                show _ = _
                rw [← HRES.out, HDR.out]
                simp [cmp, h92, h34]
              clear h92 h34
              go_wp2_with (at_builtin; refine wpList_append_dst _ rfl (.tmp 31) (.tmp 33) rfl rfl (hD1.out _) (by simp; omega) _ _ _ [cc] rfl rfl (fun h => by cases h) hsrc.out ?_ ?_)
              · simp; omega
              · intro A' c'' w' hD' hb'
                have hbl' : Below w.heap.size w w' := (hbl1.out _).trans hb'
                clear hD hD1 hbl hbl1 hb' hsrc hcw
                go_wp2_with fail
                go_roundg (n - (i + 1))
                case measure => go_light; omega
                case rel => go_light; exact ⟨i + 1, out ++ [cc], A', c'', true, false, by omega, rfl, by simp, rfl, rfl, by simp, hD', hbl', HNEXT.out, by simp; omega⟩
    · have hz1 : ¬ (i : Int) < (n : Int) := by omega
      have HF : Hid (out = cmp false false R) := by
        show _ = _
        rw [← HRES.out, List.drop_of_length_le (by have := HN.out; omega)]
        cases s <;> cases e <;> simp [cmp]
      have hR : PassR w (cmp false false R) (.returned (.slice Ao out.length co)) wr := by
        rw [← HF.out]
        exact ⟨Ao, co, rfl, hD, hbl⟩
      clear hnR
      go_wp2_with fail
      go_ret
      exact hR
end Go.Proofs.Qxb6602824a
