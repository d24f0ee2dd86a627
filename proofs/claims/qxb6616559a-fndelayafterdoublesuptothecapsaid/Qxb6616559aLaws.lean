/-
  The two laws' walks (functions 3 and 4), out of the contracts.
-/
import Derived.Test.Qxb6616559aParts
namespace Go.Proofs.Qxb6616559a
open Go.RowKit

set_option maxHeartbeats 400000 in
theorem law3 (r m a : Int) (w : World) (hr0 : -9223372036854775808 ≤ r) (hr1 : r ≤ 9223372036854775807) (hm0 : -9223372036854775808 ≤ m) (hm : m ≤ 9223372036854775807) (ha0 : -9223372036854775808 ≤ a) (ha : a ≤ 9223372036854775807) :
    Calls Try.prog 3 #[.int .i64 r, .int .i64 m, .int .i64 a] w fun e w' => e = .returned (.bool true) ∧ Grown w w' := by
  by_cases h1 : r < 1
  · go_enter Try.func3, Try.ntmps3
    go_wp2
    go_ret
    exact ⟨rfl, Grown.refl _⟩
  · by_cases h2 : m < r
    · go_enter Try.func3, Try.ntmps3
      go_wp2
      go_ret
      exact ⟨rfl, Grown.refl _⟩
    · by_cases h3 : a ≤ 1
      · have HX : Hid (r = del m (a - 1).toNat r) := by
          show r = _
          have e : (a - 1).toNat = 0 := by omega
          rw [e]; rfl
        go_enter Try.func3, Try.ntmps3
        go_wp2_with fail
        refine (new_any _ _ _).mono ?_
        rintro e w1 ⟨g, rfl, hG, hgr⟩
        have HG : Hid (Holds w1 g r m) := hG
        clear hG
        go_wp2_with fail
        refine (zz_any g r m a _ HG.out (by omega) (by omega) hm ha r HX).mono ?_
        rintro e w2 ⟨rfl, rfl⟩
        go_wp2
        go_ret
        exact ⟨rfl, hgr⟩
      · obtain ⟨y, hy⟩ : ∃ y, y = del m (a - 1 - 1).toNat r := ⟨_, rfl⟩
        have hb := del_bd m r (by omega) (by omega) (a - 1 - 1).toNat
        rw [← hy] at hb
        obtain ⟨hb1, hb2⟩ := hb
        have HY : Hid (y = del m (a - 1 - 1).toNat r) := hy
        have HXs : Hid (del m (a - 1).toNat r = stepD m y) := by
          show _ = _
          have e : (a - 1).toNat = (a - 1 - 1).toNat + 1 := by omega
          rw [e, hy]; rfl
        clear hy
        by_cases h4 : y ≤ m - y
        · have HX : Hid (y + y = del m (a - 1).toNat r) := by
            show _ = _
            rw [HXs.out, stepD, if_neg (by omega)]; omega
          clear HXs
          go_enter Try.func3, Try.ntmps3
          go_wp2_with fail
          refine (new_any _ _ _).mono ?_
          rintro e w1 ⟨g, rfl, hG, hgr⟩
          have HG : Hid (Holds w1 g r m) := hG
          clear hG
          go_wp2_with fail
          refine (zz_any g r m a _ HG.out (by omega) (by omega) hm ha (y + y) HX).mono ?_
          rintro e w2 ⟨rfl, rfl⟩
          go_wp2_with fail
          refine (zz_any g r m (a - 1) _ HG.out (by omega) (by omega) hm (by omega) y HY).mono ?_
          rintro e w3 ⟨rfl, rfl⟩
          go_wp2
          go_ret
          exact ⟨rfl, hgr⟩
        · have HX : Hid (m = del m (a - 1).toNat r) := by
            show _ = _
            rw [HXs.out, stepD, if_pos (by omega)]
          clear HXs
          go_enter Try.func3, Try.ntmps3
          go_wp2_with fail
          refine (new_any _ _ _).mono ?_
          rintro e w1 ⟨g, rfl, hG, hgr⟩
          have HG : Hid (Holds w1 g r m) := hG
          clear hG
          go_wp2_with fail
          refine (zz_any g r m a _ HG.out (by omega) (by omega) hm ha m HX).mono ?_
          rintro e w2 ⟨rfl, rfl⟩
          go_wp2_with fail
          refine (zz_any g r m (a - 1) _ HG.out (by omega) (by omega) hm (by omega) y HY).mono ?_
          rintro e w3 ⟨rfl, rfl⟩
          go_wp2
          go_ret
          exact ⟨rfl, hgr⟩

end Go.Proofs.Qxb6616559a
