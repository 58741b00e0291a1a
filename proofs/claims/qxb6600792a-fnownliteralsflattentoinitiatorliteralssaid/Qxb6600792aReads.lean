import Derived.Test.Qxb6600792aBase
namespace Go.Proofs.Qxb6600792a
open Go.RowKit

/-- What zzPartsBytes answers: the bytes, or -1 where they pass the budget. -/
def PartsB (G : Nat) (L : Nat → Nat) (z : Int) : Prop :=
  z = -1 ∨ (z = 24 * (G : Int) + 8 * (sumTo L G : Int) ∧ z ≤ 1048576)

set_option maxHeartbeats 400000 in
theorem partsBytes_any (ga : Option Addr) (G c : Nat) (N : Nat → Bool) (L : Nat → Nat) (Z : Nat → Nat → Int) (w : World) (hp : Parts w ga G N L Z) :
    Calls Try.prog 10 #[.slice ga G c] w fun e w' => ∃ z, e = .returned (.int .i64 z) ∧ PartsB G L z ∧ w' = w := by
  by_cases hG : (43690 : Int) < (G : Int)
  · go_enter Try.func10, Try.ntmps10
    go_wp2
    go_ret
    exact ⟨-1, rfl, Or.inl rfl, rfl⟩
  · have hG2 : (G : Int) ≤ 43690 := by omega
    go_enter Try.func10, Try.ntmps10
    go_wp2
    go_loopg [3, 4] G (fun g t i wr => wr = w ∧ ∃ (k : Nat) (T : Int), k ≤ G ∧ g = G - k ∧ i = .int .i64 k ∧ t = .int .i64 T ∧ 0 ≤ T ∧ T ≤ 1048576 ∧ T = 24 * (G : Int) + 8 * (sumTo L k : Int))
    case atStart => exact ⟨rfl, 0, 24 * (G : Int), Nat.zero_le _, rfl, rfl, rfl, by omega, by omega, by simp [sumTo]⟩
    case round =>
      obtain ⟨rfl, k, T, hk, rfl, rfl, rfl, hT0, hT1, hT⟩ := hrel
      have HT : Hid (T = 24 * (G : Int) + 8 * (sumTo L k : Int)) := hT
      clear hT
      by_cases hlt : k < G
      · obtain ⟨gb, go, v, rfl, hc, A, cc, rfl, _⟩ := hp k hlt
        have hz1 : (k : Int) < (G : Int) := by omega
        have HS : Hid (sumTo L (k + 1) = sumTo L k + L k) := rfl
        by_cases hl : (131072 : Int) < (L k : Int)
        · go_wp2
          go_ret
          exact ⟨-1, rfl, Or.inl rfl, rfl⟩
        · by_cases ht : (1048576 : Int) < T + 8 * (L k : Int)
          · go_wp2
            go_ret
            exact ⟨-1, rfl, Or.inl rfl, rfl⟩
          · go_wp2
            go_roundg (G - (k + 1))
            case measure => go_light; omega
            case rel =>
              go_light
              have h1 := HT.out
              have h2 := HS.out
              exact ⟨rfl, k + 1, T + 8 * (L k : Int), by omega, rfl, by simp, rfl, by omega, by omega, by omega⟩
      · have hz1 : ¬ (k : Int) < (G : Int) := by omega
        go_wp2
        go_ret
        obtain rfl : k = G := by omega
        exact ⟨T, rfl, Or.inr ⟨HT.out, hT1⟩, rfl⟩

/-- What zzAllIn answers. -/
def AllInR (G : Nat) (L : Nat → Nat) (Z : Nat → Nat → Int) (B : Int) (e : Ending) : Prop :=
  ∃ t, e = .returned (.bool t) ∧ (t = true → ∀ r, r < G → ∀ i, i < L r → 0 ≤ Z r i ∧ Z r i < B)

set_option maxHeartbeats 400000 in
theorem allIn_any (ga : Option Addr) (G c : Nat) (N : Nat → Bool) (L : Nat → Nat) (Z : Nat → Nat → Int) (B : Int) (w : World) (hG : G ≤ 1048576) (hL : ∀ r, r < G → L r ≤ 1048576) (hp : Parts w ga G N L Z) :
    Calls Try.prog 11 #[.slice ga G c, .int .i64 B] w fun e w' => AllInR G L Z B e ∧ w' = w := by
  go_enter Try.func11, Try.ntmps11
  go_wp2
  go_loopg [5] G (fun g i wr => wr = w ∧ ∃ (k : Nat), k ≤ G ∧ g = G - k ∧ i = .int .i64 k ∧ ∀ r, r < k → ∀ i, i < L r → 0 ≤ Z r i ∧ Z r i < B)
  case atStart => exact ⟨rfl, 0, Nat.zero_le _, rfl, rfl, fun r hr => absurd hr (Nat.not_lt_zero _)⟩
  case round =>
    obtain ⟨rfl, k, hk, rfl, rfl, hall⟩ := hrel
    have HA : Hid (∀ r, r < k → ∀ i, i < L r → 0 ≤ Z r i ∧ Z r i < B) := hall
    clear hall
    by_cases hlt : k < G
    · obtain ⟨gb, go, v, rfl, hc, A, cc, rfl, _, _, _, hz⟩ := hp k hlt
      have hz1 : (k : Int) < (G : Int) := by omega
      have hLk := hL k hlt
      go_wp2
      go_loopg [7] (L k) (fun g i wx => wx = wr ∧ ∃ (j : Nat), j ≤ L k ∧ g = L k - j ∧ i = .int .i64 j ∧ ∀ i, i < j → 0 ≤ Z k i ∧ Z k i < B)
      case atStart => exact ⟨rfl, 0, Nat.zero_le _, rfl, rfl, fun r hr => absurd hr (Nat.not_lt_zero _)⟩
      case round =>
        obtain ⟨rfl, j, hj, rfl, rfl, hall⟩ := hrel
        have HB : Hid (∀ i, i < j → 0 ≤ Z k i ∧ Z k i < B) := hall
        clear hall
        by_cases hjl : j < L k
        · obtain ⟨b, o, rfl, hcell⟩ := hz j hjl
          have hz2 : (j : Int) < (L k : Int) := by omega
          by_cases h0 : Z k j < 0
          · go_wp2
            go_ret
            exact ⟨⟨false, rfl, fun h => by (cases h)⟩, rfl⟩
          · by_cases h1 : B ≤ Z k j
            · go_wp2
              go_ret
              exact ⟨⟨false, rfl, fun h => by (cases h)⟩, rfl⟩
            · go_wp2
              go_roundg (L k - (j + 1))
              case measure => go_light; omega
              case rel =>
                go_light
                refine ⟨rfl, j + 1, by omega, rfl, by simp, fun i hi => ?_⟩
                by_cases e : i = j
                · subst e; omega
                · exact HB.out i (by omega)
        · have hz2 : ¬ (j : Int) < (L k : Int) := by omega
          go_wp2
          go_roundg (G - (k + 1))
          case measure => go_light; omega
          case rel =>
            go_light
            refine ⟨rfl, k + 1, by omega, rfl, by simp, fun r hr => ?_⟩
            by_cases e : r = k
            · subst e; exact fun i hi => HB.out i (by omega)
            · exact HA.out r (by omega)
    · have hz1 : ¬ (k : Int) < (G : Int) := by omega
      go_wp2
      go_ret
      exact ⟨⟨true, rfl, fun _ r hr => HA.out r (by omega)⟩, rfl⟩

/-- What a bound laid by program answers: a Boolean; nothing is read into it. -/
def SomeB (e : Ending) : Prop := ∃ t, e = .returned (.bool t)

set_option maxHeartbeats 800000 in
theorem bytesFlatten_any (ga : Option Addr) (G c : Nat) (N : Nat → Bool) (L : Nat → Nat) (Z : Nat → Nat → Int) (n l : Int) (w : World) (hp : Parts w ga G N L Z) :
    Calls Try.prog 9 #[.slice ga G c, .int .i64 n, .int .i64 l] w fun e w' => SomeB e ∧ w' = w := by
  by_cases hG : (1048576 : Int) < (G : Int)
  · go_enter Try.func9, Try.ntmps9
    go_wp2
    go_ret
    exact ⟨⟨_, rfl⟩, rfl⟩
  · have hG2 : (G : Int) ≤ 1048576 := by omega
    go_enter Try.func9, Try.ntmps9
    go_wp2
    go_loopg [7, 8] G (fun g t i wr => wr = w ∧ ∃ (k : Nat) (T : Int), k ≤ G ∧ g = G - k ∧ i = .int .i64 k ∧ t = .int .i64 T ∧ 0 ≤ T ∧ T ≤ 1048576)
    case atStart => exact ⟨rfl, 0, _, Nat.zero_le _, rfl, rfl, rfl, by omega, by omega⟩
    case round =>
      obtain ⟨rfl, k, T, hk, rfl, rfl, rfl, hT0, hT1⟩ := hrel
      by_cases hlt : k < G
      · obtain ⟨gb, go, v, rfl, hc, A, cc, rfl, _⟩ := hp k hlt
        have hz1 : (k : Int) < (G : Int) := by omega
        by_cases hl : (1048576 : Int) < (L k : Int)
        · go_wp2
          go_ret
          exact ⟨⟨_, rfl⟩, rfl⟩
        · by_cases ht : (1048576 : Int) < T + (L k : Int)
          · go_wp2
            go_ret
            exact ⟨⟨_, rfl⟩, rfl⟩
          · go_wp2
            go_roundg (G - (k + 1))
            case measure => go_light; omega
            case rel =>
              go_light
              exact ⟨rfl, k + 1, T + (L k : Int), by omega, rfl, by simp, rfl, by omega, by omega⟩
      · have hz1 : ¬ (k : Int) < (G : Int) := by omega
        go_wp2
        go_ret
        exact ⟨⟨_, rfl⟩, rfl⟩
set_option maxHeartbeats 800000 in
theorem bytesResolve_any (ga : Option Addr) (G c : Nat) (N : Nat → Bool) (L : Nat → Nat) (Z : Nat → Nat → Int) (n l : Int) (w : World) (hp : Parts w ga G N L Z) :
    Calls Try.prog 17 #[.slice ga G c, .int .i64 n, .int .i64 l] w fun e w' => SomeB e ∧ w' = w := by
  by_cases hG : (1048576 : Int) < (G : Int)
  · go_enter Try.func17, Try.ntmps17
    go_wp2
    go_ret
    exact ⟨⟨_, rfl⟩, rfl⟩
  · have hG2 : (G : Int) ≤ 1048576 := by omega
    go_enter Try.func17, Try.ntmps17
    go_wp2
    go_loopg [7, 8] G (fun g t i wr => wr = w ∧ ∃ (k : Nat) (T : Int), k ≤ G ∧ g = G - k ∧ i = .int .i64 k ∧ t = .int .i64 T ∧ 0 ≤ T ∧ T ≤ 1048576)
    case atStart => exact ⟨rfl, 0, _, Nat.zero_le _, rfl, rfl, rfl, by omega, by omega⟩
    case round =>
      obtain ⟨rfl, k, T, hk, rfl, rfl, rfl, hT0, hT1⟩ := hrel
      by_cases hlt : k < G
      · obtain ⟨gb, go, v, rfl, hc, A, cc, rfl, _⟩ := hp k hlt
        have hz1 : (k : Int) < (G : Int) := by omega
        by_cases hl : (1048576 : Int) < (L k : Int)
        · go_wp2
          go_ret
          exact ⟨⟨_, rfl⟩, rfl⟩
        · by_cases ht : (1048576 : Int) < T + (L k : Int)
          · go_wp2
            go_ret
            exact ⟨⟨_, rfl⟩, rfl⟩
          · go_wp2
            go_roundg (G - (k + 1))
            case measure => go_light; omega
            case rel =>
              go_light
              exact ⟨rfl, k + 1, T + (L k : Int), by omega, rfl, by simp, rfl, by omega, by omega⟩
      · have hz1 : ¬ (k : Int) < (G : Int) := by omega
        go_wp2
        go_ret
        exact ⟨⟨_, rfl⟩, rfl⟩
set_option maxHeartbeats 800000 in
theorem bytesName_any (ga : Option Addr) (G c : Nat) (N : Nat → Bool) (L : Nat → Nat) (Z : Nat → Nat → Int) (xa : Option Addr) (m mc : Nat) (w : World) (hp : Parts w ga G N L Z) :
    Calls Try.prog 19 #[.slice ga G c, .slice xa m mc] w fun e w' => SomeB e ∧ w' = w := by
  by_cases hG : (1048576 : Int) < (G : Int)
  · go_enter Try.func19, Try.ntmps19
    go_wp2
    go_ret
    exact ⟨⟨_, rfl⟩, rfl⟩
  · have hG2 : (G : Int) ≤ 1048576 := by omega
    go_enter Try.func19, Try.ntmps19
    go_wp2
    go_loopg [5, 6] G (fun g t i wr => wr = w ∧ ∃ (k : Nat) (T : Int), k ≤ G ∧ g = G - k ∧ i = .int .i64 k ∧ t = .int .i64 T ∧ 0 ≤ T ∧ T ≤ 1048576)
    case atStart => exact ⟨rfl, 0, _, Nat.zero_le _, rfl, rfl, rfl, by omega, by omega⟩
    case round =>
      obtain ⟨rfl, k, T, hk, rfl, rfl, rfl, hT0, hT1⟩ := hrel
      by_cases hlt : k < G
      · obtain ⟨gb, go, v, rfl, hc, A, cc, rfl, _⟩ := hp k hlt
        have hz1 : (k : Int) < (G : Int) := by omega
        by_cases hl : (1048576 : Int) < (L k : Int)
        · go_wp2
          go_ret
          exact ⟨⟨_, rfl⟩, rfl⟩
        · by_cases ht : (1048576 : Int) < T + (L k : Int)
          · go_wp2
            go_ret
            exact ⟨⟨_, rfl⟩, rfl⟩
          · go_wp2
            go_roundg (G - (k + 1))
            case measure => go_light; omega
            case rel =>
              go_light
              exact ⟨rfl, k + 1, T + (L k : Int), by omega, rfl, by simp, rfl, by omega, by omega⟩
      · have hz1 : ¬ (k : Int) < (G : Int) := by omega
        by_cases hm : (1048576 : Int) < (m : Int)
        · go_wp2
          go_ret
          exact ⟨⟨_, rfl⟩, rfl⟩
        · by_cases hm2 : (1048576 : Int) < T + (m : Int)
          · go_wp2
            go_ret
            exact ⟨⟨_, rfl⟩, rfl⟩
          · go_wp2
            go_ret
            exact ⟨⟨_, rfl⟩, rfl⟩
set_option maxHeartbeats 800000 in
theorem bytesAppend_any (ga : Option Addr) (G c : Nat) (N : Nat → Bool) (L : Nat → Nat) (Z : Nat → Nat → Int) (xa : Option Addr) (m mc : Nat) (w : World) (hp : Parts w ga G N L Z) :
    Calls Try.prog 22 #[.slice ga G c, .slice xa m mc] w fun e w' => SomeB e ∧ w' = w := by
  by_cases hG : (1048576 : Int) < (G : Int)
  · go_enter Try.func22, Try.ntmps22
    go_wp2
    go_ret
    exact ⟨⟨_, rfl⟩, rfl⟩
  · have hG2 : (G : Int) ≤ 1048576 := by omega
    go_enter Try.func22, Try.ntmps22
    go_wp2
    go_loopg [5, 6] G (fun g t i wr => wr = w ∧ ∃ (k : Nat) (T : Int), k ≤ G ∧ g = G - k ∧ i = .int .i64 k ∧ t = .int .i64 T ∧ 0 ≤ T ∧ T ≤ 1048576)
    case atStart => exact ⟨rfl, 0, _, Nat.zero_le _, rfl, rfl, rfl, by omega, by omega⟩
    case round =>
      obtain ⟨rfl, k, T, hk, rfl, rfl, rfl, hT0, hT1⟩ := hrel
      by_cases hlt : k < G
      · obtain ⟨gb, go, v, rfl, hc, A, cc, rfl, _⟩ := hp k hlt
        have hz1 : (k : Int) < (G : Int) := by omega
        by_cases hl : (1048576 : Int) < (L k : Int)
        · go_wp2
          go_ret
          exact ⟨⟨_, rfl⟩, rfl⟩
        · by_cases ht : (1048576 : Int) < T + (L k : Int)
          · go_wp2
            go_ret
            exact ⟨⟨_, rfl⟩, rfl⟩
          · go_wp2
            go_roundg (G - (k + 1))
            case measure => go_light; omega
            case rel =>
              go_light
              exact ⟨rfl, k + 1, T + (L k : Int), by omega, rfl, by simp, rfl, by omega, by omega⟩
      · have hz1 : ¬ (k : Int) < (G : Int) := by omega
        by_cases hm : (1048576 : Int) < (m : Int)
        · go_wp2
          go_ret
          exact ⟨⟨_, rfl⟩, rfl⟩
        · by_cases hm2 : (1048576 : Int) < T + (m : Int)
          · go_wp2
            go_ret
            exact ⟨⟨_, rfl⟩, rfl⟩
          · go_wp2
            go_ret
            exact ⟨⟨_, rfl⟩, rfl⟩
set_option maxHeartbeats 800000 in
theorem bytesRead_any (ga : Option Addr) (G c : Nat) (N : Nat → Bool) (L : Nat → Nat) (Z : Nat → Nat → Int) (x1 x2 x3 : Int) (xa : Option Addr) (m mc : Nat) (w : World) (hp : Parts w ga G N L Z) :
    Calls Try.prog 23 #[.int .i64 x1, .int .i64 x2, .int .i64 x3, .slice ga G c, .slice xa m mc] w fun e w' => SomeB e ∧ w' = w := by
  by_cases hG : (1048576 : Int) < (G : Int)
  · go_enter Try.func23, Try.ntmps23
    go_wp2
    go_ret
    exact ⟨⟨_, rfl⟩, rfl⟩
  · have hG2 : (G : Int) ≤ 1048576 := by omega
    go_enter Try.func23, Try.ntmps23
    go_wp2
    go_loopg [11, 12] G (fun g t i wr => wr = w ∧ ∃ (k : Nat) (T : Int), k ≤ G ∧ g = G - k ∧ i = .int .i64 k ∧ t = .int .i64 T ∧ 0 ≤ T ∧ T ≤ 1048576)
    case atStart => exact ⟨rfl, 0, _, Nat.zero_le _, rfl, rfl, rfl, by omega, by omega⟩
    case round =>
      obtain ⟨rfl, k, T, hk, rfl, rfl, rfl, hT0, hT1⟩ := hrel
      by_cases hlt : k < G
      · obtain ⟨gb, go, v, rfl, hc, A, cc, rfl, _⟩ := hp k hlt
        have hz1 : (k : Int) < (G : Int) := by omega
        by_cases hl : (1048576 : Int) < (L k : Int)
        · go_wp2
          go_ret
          exact ⟨⟨_, rfl⟩, rfl⟩
        · by_cases ht : (1048576 : Int) < T + (L k : Int)
          · go_wp2
            go_ret
            exact ⟨⟨_, rfl⟩, rfl⟩
          · go_wp2
            go_roundg (G - (k + 1))
            case measure => go_light; omega
            case rel =>
              go_light
              exact ⟨rfl, k + 1, T + (L k : Int), by omega, rfl, by simp, rfl, by omega, by omega⟩
      · have hz1 : ¬ (k : Int) < (G : Int) := by omega
        by_cases hm : (1048576 : Int) < (m : Int)
        · go_wp2
          go_ret
          exact ⟨⟨_, rfl⟩, rfl⟩
        · by_cases hm2 : (1048576 : Int) < T + (m : Int)
          · go_wp2
            go_ret
            exact ⟨⟨_, rfl⟩, rfl⟩
          · go_wp2
            go_ret
            exact ⟨⟨_, rfl⟩, rfl⟩

end Go.Proofs.Qxb6600792a
