import Derived.Test.Qxb6602824aHex
namespace Go.Proofs.Qxb6602824a
open Go.RowKit

/-- The sign that writes a digit. -/
def digch (d : Nat) (up : Bool) : Int := if d < 10 then 48 + d else if up then 55 + d else 87 + d

theorem low_at (d : Nat) (h : d < (ByteArray.mk #[48, 49, 50, 51, 52, 53, 54, 55, 56, 57, 97, 98, 99, 100, 101, 102]).size) : ((((ByteArray.mk #[48, 49, 50, 51, 52, 53, 54, 55, 56, 57, 97, 98, 99, 100, 101, 102])[d]'h).toNat : Nat) : Int) = digch d false := by
  have h16 : d < 16 := h
  have hs : d = 0 ∨ d = 1 ∨ d = 2 ∨ d = 3 ∨ d = 4 ∨ d = 5 ∨ d = 6 ∨ d = 7 ∨ d = 8 ∨ d = 9 ∨ d = 10 ∨ d = 11 ∨ d = 12 ∨ d = 13 ∨ d = 14 ∨ d = 15 := by omega
  rcases hs with rfl | rfl | rfl | rfl | rfl | rfl | rfl | rfl | rfl | rfl | rfl | rfl | rfl | rfl | rfl | rfl <;> rfl

theorem cap_at (d : Nat) (h : d < (ByteArray.mk #[48, 49, 50, 51, 52, 53, 54, 55, 56, 57, 65, 66, 67, 68, 69, 70]).size) : ((((ByteArray.mk #[48, 49, 50, 51, 52, 53, 54, 55, 56, 57, 65, 66, 67, 68, 69, 70])[d]'h).toNat : Nat) : Int) = digch d true := by
  have h16 : d < 16 := h
  have hs : d = 0 ∨ d = 1 ∨ d = 2 ∨ d = 3 ∨ d = 4 ∨ d = 5 ∨ d = 6 ∨ d = 7 ∨ d = 8 ∨ d = 9 ∨ d = 10 ∨ d = 11 ∨ d = 12 ∨ d = 13 ∨ d = 14 ∨ d = 15 := by omega
  rcases hs with rfl | rfl | rfl | rfl | rfl | rfl | rfl | rfl | rfl | rfl | rfl | rfl | rfl | rfl | rfl | rfl <;> rfl

theorem digch_bd {d : Nat} {up : Bool} (h : d < 16) : 0 ≤ digch d up ∧ digch d up ≤ 255 := by
  unfold digch
  by_cases h1 : d < 10
  · rw [if_pos h1]; omega
  · rw [if_neg h1]
    cases up
    · simp; omega
    · simp; omega

theorem hexv_digch {d : Nat} {up : Bool} (h : d < 16) : hexv (digch d up) = some (d : Int) := by
  unfold digch hexv
  by_cases h1 : d < 10
  · rw [if_pos h1, if_pos (by omega)]
    congr 1
    omega
  · rw [if_neg h1]
    cases up
    · simp only [Bool.false_eq_true, if_false]
      rw [if_neg (by omega), if_pos (by omega)]
      congr 1
      omega
    · simp only [if_true]
      rw [if_neg (by omega), if_neg (by omega), if_pos (by omega)]
      congr 1
      omega

set_option maxHeartbeats 400000 in
theorem digitChar_any (d : Nat) (up : Bool) (w : World) (hd : d < 16) : Calls Try.prog 12 #[.int .i64 (d : Int), .bool up] w fun e w' => e = .returned (.int .u8 (digch d up)) ∧ w' = w := by
  have h1 : (d : Int) < 16 := by omega
  cases up
  · go_enter Try.func12, Try.ntmps12
    go_wp2
    go_ret
    exact ⟨congrArg (fun x => Ending.returned (.int .u8 x)) (low_at d _), rfl⟩
  · go_enter Try.func12, Try.ntmps12
    go_wp2
    go_ret
    exact ⟨congrArg (fun x => Ending.returned (.int .u8 x)) (cap_at d _), rfl⟩

/-- The bound laid by program. -/
def SomeB (e : Ending) : Prop := ∃ t, e = .returned (.bool t)

theorem bytesReads_any (a0 a1 : Int) (A : Option Addr) (n c : Nat) (w : World) : Calls Try.prog 11 #[.int .u16 a0, .int .u8 a1, .slice A n c] w fun e w' => SomeB e ∧ w' = w := by
  by_cases h : (1048576 : Int) < (n : Int)
  · go_enter Try.func11, Try.ntmps11
    go_wp2
    go_ret
    exact ⟨⟨_, rfl⟩, rfl⟩
  · go_enter Try.func11, Try.ntmps11
    go_wp2
    go_ret
    exact ⟨⟨_, rfl⟩, rfl⟩

theorem bytesMatches_any (A : Option Addr) (n c : Nat) (w : World) : Calls Try.prog 7 #[.slice A n c] w fun e w' => SomeB e ∧ w' = w := by
  by_cases h : (1048576 : Int) < (n : Int)
  · go_enter Try.func7, Try.ntmps7
    go_wp2
    go_ret
    exact ⟨⟨_, rfl⟩, rfl⟩
  · go_enter Try.func7, Try.ntmps7
    go_wp2
    go_ret
    exact ⟨⟨_, rfl⟩, rfl⟩

end Go.Proofs.Qxb6602824a
