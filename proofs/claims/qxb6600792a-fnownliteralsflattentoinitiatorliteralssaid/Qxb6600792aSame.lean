import Derived.Test.Qxb6600792aOwn
import Derived.Deep.QuietTactic
import Derived.BigQuiet
namespace Go.Proofs.Qxb6600792a
open Go.RowKit


set_option maxHeartbeats 800000 in
set_option maxRecDepth 100000 in
/-- zzSame at two slices that read alike. -/
theorem same_any (A A' : Option Addr) (N : Bool) (n c c' : Nat) (z : Nat → Int) (w : World) (hn : n ≤ 4194304) (h : Sl w (.slice A n c) N n z) (h' : Sl w (.slice A' n c') N n z) :
    Calls Try.prog 15 #[.slice A n c, .slice A' n c'] w fun e w' => e = .returned (.bool true) ∧ Below w.heap.size w w' := by
  obtain ⟨hN, _, _, hz⟩ := sl_lit h
  obtain ⟨hN', _, _, hz'⟩ := sl_lit h'
  have hnil := Try.nil29
  have HZ : Hid (∀ i, i < n → ∃ b o, A = some ⟨b, o, none⟩ ∧ w.cell? ⟨b, o + i, none⟩ = some (.int .i64 (z i))) := hz
  have HZ' : Hid (∀ i, i < n → ∃ b o, A' = some ⟨b, o, none⟩ ∧ w.cell? ⟨b, o + i, none⟩ = some (.int .i64 (z i))) := hz'
  clear hz hz' h h'
  go_enter Try.func15, Try.ntmps15
  go_wp2_with fail
  clear hN hN' hnil
  go_loopg [5] n (fun g i wr => ∃ (k : Nat), k ≤ n ∧ g = n - k ∧ i = .int .i64 k ∧ Below w.heap.size w wr)
  case atStart => exact ⟨0, Nat.zero_le _, rfl, rfl, Below.refl _ _⟩
  case round =>
    obtain ⟨k, hk, rfl, rfl, hbr⟩ := hrel
    by_cases hlt : k < n
    · obtain ⟨b, o, rfl, hc⟩ := HZ.out k hlt
      obtain ⟨b', o', rfl, hc'⟩ := HZ'.out k hlt
      have hz1 : (k : Int) < (n : Int) := by omega
      have t1 : wr.cell? ⟨b, o + k, none⟩ = some (.int .i64 (z k)) := by rw [hbr.cell (p := ⟨b, o + k, none⟩) (World.block_lt_of_cell? _ _ hc)]; exact hc
      have t2 : wr.cell? ⟨b', o' + k, none⟩ = some (.int .i64 (z k)) := by rw [hbr.cell (p := ⟨b', o' + k, none⟩) (World.block_lt_of_cell? _ _ hc')]; exact hc'
      clear hc hc'
      go_wp2_with fail
      go_quiet (fail)
      go_wp2_with fail
      go_roundg (n - (k + 1))
      case measure => go_light; omega
      case rel => go_light; exact ⟨k + 1, by omega, rfl, by simp, below_drewN hbr _⟩
    · have hz1 : ¬ (k : Int) < (n : Int) := by omega
      go_wp2_with fail
      go_ret
      exact ⟨rfl, hbr⟩
end Go.Proofs.Qxb6600792a
