/-
  ZZnewRelayDelays (5), delayAfter (7), ZZdelayAfter (6).
-/
import Derived.Test.Qxb6616559aProg
import Derived.Test.Qxb6616559aPlain
import Derived.WalkKit
import Derived.WalkSpells
import Derived.WalkLawsBesides
namespace Go.Proofs.Qxb6616559a
open Go.RowKit

/-- The two delays that the Relay at block g holds. -/
def Holds (w : World) (g : Nat) (r m : Int) : Prop := w.cell? ⟨g, 4, none⟩ = some (.int .i64 r) ∧ w.cell? ⟨g, 5, none⟩ = some (.int .i64 m)

set_option maxHeartbeats 400000 in
theorem new_any (r m : Int) (w : World) :
    Calls Try.prog 5 #[.int .i64 r, .int .i64 m] w fun e w' => ∃ g, e = .returned (.pointer (some ⟨g, 0, none⟩)) ∧ Holds w' g r m ∧ Grown w w' := by
  go_enter Try.func5, Try.ntmps5
  go_wp2
  go_ret
  exact ⟨w.heap.size, rfl, ⟨by simp, by simp⟩, Grown.alloc (Grown.refl _) _ _⟩

theorem del_end (m r a : Int) (k : Nat) (h : (k : Int) + 1 ≤ a ∨ k = 0) (hn : ¬ (k : Int) + 1 < a) : del m k r = del m (a - 1).toNat r := by
  have : k = (a - 1).toNat := by omega
  rw [this]
theorem del_over (m r a : Int) (k : Nat) (h1 : 1 ≤ m) (hlt : (k : Int) + 1 < a) (hd : m / 2 < del m k r) : m = del m (a - 1).toNat r := by
  have e : (a - 1).toNat = k + 1 + ((a - 1).toNat - (k + 1)) := by omega
  rw [e, del_capped m r h1 k hd]
theorem ret_int {k : IntKind} {a b : Int} (h : a = b) : Ending.returned (.int k a) = .returned (.int k b) := by rw [h]

set_option maxHeartbeats 400000 in
theorem after_any (g : Nat) (r m a : Int) (w : World) (hg : Holds w g r m) (h1 : 1 ≤ r) (h2 : r ≤ m) (hm : m ≤ 9223372036854775807) (ha : a ≤ 9223372036854775807) (x : Int) (HX : Hid (x = del m (a - 1).toNat r)) :
    Calls Try.prog 7 #[.pointer (some ⟨g, 0, none⟩), .int .i64 a] w fun e w' => e = .returned (.int .i64 x) ∧ w' = w := by
  obtain ⟨hc4, hc5⟩ := hg
  go_enter Try.func7, Try.ntmps7
  go_wp2
  go_loop [5, 6] (fun dl i => ∃ (k : Nat) (d : Int), 1 ≤ d ∧ d ≤ m ∧ Hid (d = del m k r) ∧ i = .int .i64 ((k : Int) + 1) ∧ dl = .int .i64 d ∧ ((k : Int) + 1 ≤ a ∨ k = 0)) (fun _ i => (a - intOf i).toNat)
  case atStart => exact ⟨0, r, h1, h2, rfl, rfl, rfl, .inr rfl⟩
  case round =>
    obtain ⟨k, d, hd1, hd2, HD, rfl, rfl, hk⟩ := hrel
    have HK : Hid ((k : Int) + 1 ≤ a ∨ k = 0) := hk
    clear hk
    by_cases hlt : (k : Int) + 1 < a
    · by_cases hd : m / 2 < d
      · go_wp2
        go_ret
        exact ⟨ret_int ((del_over m r a k (by omega) hlt (by rw [← HD.out]; exact hd)).trans HX.out.symm), rfl⟩
      · go_wp2
        go_round
        case rel => exact ⟨k + 1, d * 2, by omega, by omega, by show d * 2 = stepD m (del m k r); rw [← HD.out, stepD, if_neg hd], by go_num, by go_num, .inl (by omega)⟩
        case measure => simp [intOf]; omega
    · go_wp2
      go_ret
      exact ⟨ret_int ((HD.out.trans (del_end m r a k HK.out (by omega))).trans HX.out.symm), rfl⟩

set_option maxHeartbeats 400000 in
theorem zz_any (g : Nat) (r m a : Int) (w : World) (hg : Holds w g r m) (h1 : 1 ≤ r) (h2 : r ≤ m) (hm : m ≤ 9223372036854775807) (ha : a ≤ 9223372036854775807) (x : Int) (HX : Hid (x = del m (a - 1).toNat r)) :
    Calls Try.prog 6 #[.pointer (some ⟨g, 0, none⟩), .int .i64 a] w fun e w' => e = .returned (.int .i64 x) ∧ w' = w := by
  have H : Hid (Calls Try.prog 7 #[.pointer (some ⟨g, 0, none⟩), .int .i64 a] w fun e w' => e = .returned (.int .i64 x) ∧ w' = w) := after_any g r m a w hg h1 h2 hm ha x HX
  clear hg
  go_enter Try.func6, Try.ntmps6
  go_wp2_with fail
  refine H.out.mono ?_
  rintro e w1 ⟨rfl, rfl⟩
  clear H
  go_wp2
  go_ret
  exact ⟨rfl, rfl⟩
end Go.Proofs.Qxb6616559a
