/-
  sameBytes (function 12) at two slices that read alike; isMemberText (7); the bounds' test (6); ZZObjectAt (10); End (11).
-/
import Derived.Test.Qxb6616431aJoin
namespace Go.Proofs.Qxb6616431a
open Go.RowKit

set_option maxHeartbeats 400000 in
theorem same_any (a : Option Addr) (n c : Nat) (zs : List Int) (a' : Option Addr) (c' : Nat) (w : World) (hr : Rd w a n zs) (hr' : Rd w a' n zs) (hn : n ≤ 4194304) :
    Calls Try.prog 12 #[.slice a n c, .slice a' n c'] w fun e w' => e = .returned (.bool true) ∧ Below w.heap.size w w' := by
  have HR : Hid (Rd w a n zs) := hr
  have HR' : Hid (Rd w a' n zs) := hr'
  clear hr hr'
  go_enter Try.func12, Try.ntmps12
  go_wp2
  go_loopw [5] (fun i wr => ∃ k : Nat, k ≤ n ∧ i = .int .i64 k ∧ ∃ q, wr = w.drewN q) (fun i _ => n - (intOf i).toNat)
  case atStart => exact ⟨0, Nat.zero_le _, rfl, 0, rfl⟩
  case round =>
    obtain ⟨k, hk, rfl, q, rfl⟩ := hrel
    by_cases hlt : k < n
    · obtain ⟨b, off, hx, hc⟩ := HR.out.2 k hlt
      obtain ⟨b', off', hx', hc'⟩ := HR'.out.2 k hlt
      obtain ⟨y, hy⟩ : ∃ y, zs.getD k 0 = y := ⟨_, rfl⟩
      rw [hy] at hc hc'
      clear hy
      cases hx
      cases hx'
      go_wp2
      go_quiet (fail)
      go_wp2
      go_roundw
      case rel => exact ⟨k + 1, by omega, by go_num, _, rfl⟩
      case measure => simp [intOf]; omega
    · go_wp2
      go_ret
      exact ⟨rfl, below_drewN (Below.refl _ _) _⟩

end Go.Proofs.Qxb6616431a
