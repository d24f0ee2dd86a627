/-
  The second law's walk (function 4), out of the contracts.
-/
import Derived.Test.Qxb6616559aParts
namespace Go.Proofs.Qxb6616559a
open Go.RowKit

theorem ret_eqb {x y : Int} (h : x = y) : Ending.returned (.bool (x == y)) = .returned (.bool true) := by rw [h]; simp

theorem fb_of (r m a b fa fb : Int) (h1 : 1 ≤ r) (h2 : r ≤ m) (h3 : 1 ≤ a) (h4 : a ≤ b) (HA : fa = del m (a - 1).toNat r) (HB : fb = del m (b - 1).toNat r) :
    fb = if fa * 2 ^ (b - a).toNat ≤ m then fa * 2 ^ (b - a).toNat else m := by
  have hb := del_bd m r h1 h2 (a - 1).toNat
  rw [← HA] at hb
  have e : (b - 1).toNat = (a - 1).toNat + (b - a).toNat := by omega
  rw [HB, e, del_add, ← HA, del_pow m fa (by omega) hb.2]

theorem bd_fb (r m a b fa fb : Int) (h1 : 1 ≤ r) (h2 : r ≤ m) (h3 : 1 ≤ a) (h4 : a ≤ b) (HA : fa = del m (a - 1).toNat r) (HB : fb = del m (b - 1).toNat r) : r ≤ fa ∧ fa ≤ m ∧ fa ≤ fb ∧ fb ≤ m := by
  have hb := del_bd m r h1 h2 (a - 1).toNat
  rw [← HA] at hb
  have e : (b - 1).toNat = (a - 1).toNat + (b - a).toNat := by omega
  have hc := del_bd m fa (by omega) hb.2 (b - a).toNat
  rw [HB, e, del_add, ← HA]
  exact ⟨hb.1, hb.2, hc.1, hc.2⟩

theorem way_shl (r m a b fa fb : Int) (hm : m ≤ 9223372036854775807) (h1 : 1 ≤ r) (h2 : r ≤ m) (h3 : 1 ≤ a) (h4 : a ≤ b) (HA : fa = del m (a - 1).toNat r) (HB : fb = del m (b - 1).toNat r) (hq : fa ≤ m / 2 ^ (b - a).toNat) :
    fb = wrap64 (fa * 2 ^ (b - a).toNat) := by
  have hp : (0 : Int) < 2 ^ (b - a).toNat := Int.pow_pos (by omega)
  have hq' := (Int.le_ediv_iff_mul_le hp).1 hq
  have hb := bd_fb r m a b fa fb h1 h2 h3 h4 HA HB
  have hz : 0 < fa * 2 ^ (b - a).toNat := Int.mul_pos (by omega) hp
  rw [fb_of r m a b fa fb h1 h2 h3 h4 HA HB, if_pos hq', IntWalk.wrap64_in _ ⟨by omega, by omega⟩]

theorem way_cap (r m a b fa fb : Int) (h1 : 1 ≤ r) (h2 : r ≤ m) (h3 : 1 ≤ a) (h4 : a ≤ b) (HA : fa = del m (a - 1).toNat r) (HB : fb = del m (b - 1).toNat r) (hq : m / 2 ^ (b - a).toNat < fa) : fb = m := by
  have hp : (0 : Int) < 2 ^ (b - a).toNat := Int.pow_pos (by omega)
  have hq' : ¬ fa * 2 ^ (b - a).toNat ≤ m := fun h => by
    have := (Int.le_ediv_iff_mul_le hp).2 h
    omega
  rw [fb_of r m a b fa fb h1 h2 h3 h4 HA HB, if_neg hq']

theorem way_far (r m a b fa fb : Int) (hm : m ≤ 9223372036854775807) (h1 : 1 ≤ r) (h2 : r ≤ m) (h3 : 1 ≤ a) (h4 : a ≤ b) (HA : fa = del m (a - 1).toNat r) (HB : fb = del m (b - 1).toNat r) (hk : ¬ b - a < 63) : fb = m := by
  have hb := bd_fb r m a b fa fb h1 h2 h3 h4 HA HB
  have hp : (2 : Int) ^ 63 ≤ 2 ^ (b - a).toNat := by
    have : (b - a).toNat = 63 + ((b - a).toNat - 63) := by omega
    rw [this, Int.pow_add]
    have h0 : (0 : Int) < 2 ^ ((b - a).toNat - 63) := Int.pow_pos (by omega)
    have h1 : (1 : Int) ≤ 2 ^ ((b - a).toNat - 63) := by omega
    have := Int.mul_le_mul_of_nonneg_left h1 (show (0 : Int) ≤ 2 ^ 63 by decide)
    omega
  have h63 : (2 : Int) ^ 63 = 9223372036854775808 := by decide
  rw [h63] at hp
  have hz : (2 : Int) ^ (b - a).toNat ≤ fa * 2 ^ (b - a).toNat := by
    have := Int.mul_le_mul_of_nonneg_right (show (1 : Int) ≤ fa by omega) (show (0 : Int) ≤ 2 ^ (b - a).toNat by omega)
    omega
  rw [fb_of r m a b fa fb h1 h2 h3 h4 HA HB, if_neg (by omega)]

set_option maxHeartbeats 400000 in
theorem law4_small (r m a b fa : Int) (w : World) (hm : m ≤ 9223372036854775807) (ha : a ≤ 9223372036854775807) (hb : b ≤ 9223372036854775807)
    (h1 : 1 ≤ r) (h2 : r ≤ m) (h3 : 1 ≤ a) (h4 : a ≤ b) (HA : Hid (fa = del m (a - 1).toNat r)) (fb : Int) (HB : Hid (fb = del m (b - 1).toNat r)) (b1 : r ≤ fa) (b2 : fa ≤ m) (b3 : fa ≤ fb) (b4 : fb ≤ m) (hk : b - a < 63) :
    Calls Try.prog 4 #[.int .i64 r, .int .i64 m, .int .i64 a, .int .i64 b] w fun e w' => e = .returned (.bool true) ∧ Grown w w' := by
  go_enter Try.func4, Try.ntmps4
  go_wp2_with fail
  refine (new_any _ _ _).mono ?_
  rintro e w1 ⟨g, rfl, hG, hgr⟩
  have HG : Hid (Holds w1 g r m) := hG
  clear hG
  go_wp2_with fail
  refine (zz_any g r m a _ HG.out (by omega) (by omega) hm ha fa HA).mono ?_
  rintro e w2 ⟨rfl, rfl⟩
  go_wp2_with fail
  refine (zz_any g r m b _ HG.out (by omega) (by omega) hm (by omega) fb HB).mono ?_
  rintro e w3 ⟨rfl, rfl⟩
  go_wp2
  · go_ret
    exact ⟨ret_eqb (way_shl r m a b fa fb hm h1 h2 h3 h4 HA.out HB.out (by assumption)), hgr⟩
  · go_ret
    exact ⟨ret_eqb (way_cap r m a b fa fb h1 h2 h3 h4 HA.out HB.out (by assumption)), hgr⟩

set_option maxHeartbeats 400000 in
theorem law4_far (r m a b fa : Int) (w : World) (hm : m ≤ 9223372036854775807) (ha : a ≤ 9223372036854775807) (hb : b ≤ 9223372036854775807)
    (h1 : 1 ≤ r) (h2 : r ≤ m) (h3 : 1 ≤ a) (_h4 : a ≤ b) (HA : Hid (fa = del m (a - 1).toNat r)) (HB : Hid (m = del m (b - 1).toNat r)) (b1 : r ≤ fa) (b2 : fa ≤ m) (hk : ¬ b - a < 63) :
    Calls Try.prog 4 #[.int .i64 r, .int .i64 m, .int .i64 a, .int .i64 b] w fun e w' => e = .returned (.bool true) ∧ Grown w w' := by
  go_enter Try.func4, Try.ntmps4
  go_wp2_with fail
  refine (new_any _ _ _).mono ?_
  rintro e w1 ⟨g, rfl, hG, hgr⟩
  have HG : Hid (Holds w1 g r m) := hG
  clear hG
  go_wp2_with fail
  refine (zz_any g r m a _ HG.out (by omega) (by omega) hm ha fa HA).mono ?_
  rintro e w2 ⟨rfl, rfl⟩
  go_wp2_with fail
  refine (zz_any g r m b _ HG.out (by omega) (by omega) hm (by omega) m HB).mono ?_
  rintro e w3 ⟨rfl, rfl⟩
  go_wp2
  go_ret
  exact ⟨rfl, hgr⟩

set_option maxHeartbeats 400000 in
theorem law4 (r m a b : Int) (w : World) (hm : m ≤ 9223372036854775807) (ha : a ≤ 9223372036854775807) (hb : b ≤ 9223372036854775807) :
    Calls Try.prog 4 #[.int .i64 r, .int .i64 m, .int .i64 a, .int .i64 b] w fun e w' => e = .returned (.bool true) ∧ Grown w w' := by
  by_cases h1 : r < 1
  · go_enter Try.func4, Try.ntmps4
    go_wp2
    go_ret
    exact ⟨rfl, Grown.refl _⟩
  · by_cases h2 : m < r
    · go_enter Try.func4, Try.ntmps4
      go_wp2
      go_ret
      exact ⟨rfl, Grown.refl _⟩
    · by_cases h3 : a < 1
      · go_enter Try.func4, Try.ntmps4
        go_wp2
        go_ret
        exact ⟨rfl, Grown.refl _⟩
      · by_cases h4 : b < a
        · go_enter Try.func4, Try.ntmps4
          go_wp2
          go_ret
          exact ⟨rfl, Grown.refl _⟩
        · obtain ⟨b1, b2, b3, b4⟩ := bd_fb r m a b _ _ (by omega) (by omega) (by omega) (by omega) rfl rfl
          by_cases hk : b - a < 63
          · exact law4_small r m a b _ w hm ha hb (by omega) (by omega) (by omega) (by omega) rfl _ rfl b1 b2 b3 b4 hk
          · have hf := way_far r m a b _ _ hm (by omega) (by omega) (by omega) (by omega) rfl rfl hk
            exact law4_far r m a b _ w hm ha hb (by omega) (by omega) (by omega) (by omega) rfl hf.symm b1 b2 hk

end Go.Proofs.Qxb6616559a
