/-
  joinBytes (function 9), sameBytes (function 12), isMemberText (7), the bounds' test (6).
-/
import Derived.Test.Qxb6616431aClone
namespace Go.Proofs.Qxb6616431a
open Go.RowKit

set_option maxHeartbeats 800000 in
theorem join_any (a : Option Addr) (n c : Nat) (zs : List Int) (a' : Option Addr) (m c' : Nat) (ys : List Int) (w : World) (hr : Rd w a n zs) (hr' : Rd w a' m ys) (hn : n ≤ 2097152) (hm : m ≤ 2097152) :
    Calls Try.prog 9 #[.slice a n c, .slice a' m c'] w fun e w' => e = .returned (.slice (some ⟨w.heap.size, 0, none⟩) (n + m) (n + m)) ∧ w'.ownsRow w.heap.size 5 1 (.slice (some ⟨w.heap.size, 0, none⟩) (n + m) (n + m)) (n + m) ((zs ++ ys).map (Value.int .u8)) ∧ Below w.heap.size w w' := by
  obtain ⟨i0, hi, hz0, hz1, hz2⟩ := info_parts Try.info5
  have HR : Hid (Rd w a n zs) := hr
  have HR' : Hid (Rd w a' m ys) := hr'
  have HL : Hid ((zs ++ ys).length = n + m) := by have h1 := hr.1; have h2 := hr'.1; show (zs ++ ys).length = n + m; simp; omega
  have HZ : Hid (zs.length = n) := hr.1
  clear hr hr'
  have hcast : ((n : Int) + (m : Int)) = ((n + m : Nat) : Int) := by omega
  have HC : Hid (((n : Int) + (m : Int)) = ((n + m : Nat) : Int)) := hcast
  clear hcast
  go_enter Try.func9, Try.ntmps9
  go_wp2_with (first | (at_make; refine wpList_make_full _ rfl (.tmp 12) (.tmp 12) 22 rfl w.heap.size 5 i0 (.int .u8 0) 1 Try.underlying22 hi hz0 hz1 .i64 .i64 _ _ (n + m) rfl rfl HC.out HC.out (by rw [hz2]; omega) (by unfold maxLen; omega) (Nat.le_refl _) ?_; intro w1 hown hgrow) | fail)
  obtain ⟨N, hN⟩ : ∃ N, N = n + m := ⟨_, rfl⟩
  obtain ⟨us, hus⟩ : ∃ us, us = zs ++ ys := ⟨_, rfl⟩
  have hown0 : w1.ownsRow w.heap.size 5 1 (.slice (some ⟨w.heap.size, 0, none⟩) (n + m) (n + m)) (n + m) ((fil (zs ++ ys) (n + m) 0).map (Value.int .u8)) := by
    rw [fil_zero]
    have : (madeCells (Value.cells (.int .u8 0)) ((n + m) * 1)).toList = (List.replicate (n + m) (0 : Int)).map (Value.int .u8) := by
      simp [Value.cells, toList_madeCells_one]
    rw [← this]; exact hown
  have hb0 : Below w.heap.size w w1 := (Below.refl _ _).grown hgrow (Nat.le_refl _) (by simp)
  clear hown hgrow hi hz0 hz1 hz2 hN hus
  go_wp2
  go_loopw [6] (fun i wr => ∃ k : Nat, k ≤ n ∧ i = .int .i64 k ∧ wr.ownsRow w.heap.size 5 1 (.slice (some ⟨w.heap.size, 0, none⟩) (n + m) (n + m)) (n + m) ((fil (zs ++ ys) (n + m) k).map (Value.int .u8)) ∧ Below w.heap.size w wr) (fun i _ => n - (intOf i).toNat)
  case atStart => exact ⟨0, Nat.zero_le _, rfl, hown0, hb0⟩
  case round =>
    obtain ⟨k, hk, rfl, hown, hb⟩ := hrel
    clear hown0 hb0
    by_cases hlt : k < n
    · obtain ⟨b, off, hx, hc⟩ := HR.out.2 k hlt
      have hbl : b < w.heap.size := World.block_lt_of_cell? w _ hc
      obtain ⟨y, hy⟩ : ∃ y, zs.getD k 0 = y := ⟨_, rfl⟩
      have hy2 : (zs ++ ys).getD k 0 = y := by rw [← hy]; have := HZ.out; simp [List.getD_eq_getElem?_getD, List.getElem?_append_left (show k < zs.length by omega)]
      rw [hy] at hc
      have hcr : wr.cell? ⟨b, off + k, none⟩ = some (.int .u8 y) := (hb.cell (p := ⟨b, off + k, none⟩) hbl).trans hc
      have hold := hown.cellAt k (by omega)
      rw [fil_getD (zs ++ ys) (n + m) k k HL.out (by omega) (by omega)] at hold
      obtain ⟨o, ho⟩ : ∃ o, (fil (zs ++ ys) (n + m) k).getD k 0 = o := ⟨_, rfl⟩
      rw [ho] at hold
      have hfz := hown.frozenAt k
      have R := hown.stored k (.int .u8 y)
      have Rown : Hid ((wr.setCell ⟨w.heap.size, k, none⟩ (.int .u8 y)).ownsRow w.heap.size 5 1 (.slice (some ⟨w.heap.size, 0, none⟩) (n + m) (n + m)) (n + m) ((fil (zs ++ ys) (n + m) (k + 1)).map (Value.int .u8))) := by
        have e : ((fil (zs ++ ys) (n + m) k).map (Value.int .u8)).set k (.int .u8 y) = (fil (zs ++ ys) (n + m) (k + 1)).map (Value.int .u8) := by
          rw [← fil_set (zs ++ ys) (n + m) k HL.out (by omega), hy2, List.map_set]
        rw [← e]; exact R.1
      have Rb : Below w.heap.size w (wr.setCell ⟨w.heap.size, k, none⟩ (.int .u8 y)) := hb.setCell (Nat.le_refl _) _
      have hnm : (k : Int) < (n : Int) + (m : Int) := by omega
      clear R hown hc ho hy hy2
      cases hx
      go_wp2
      go_roundw
      case rel => exact ⟨k + 1, by omega, by go_num, Rown.out, Rb⟩
      case measure => simp [intOf]; omega
    · have e : k = n := by omega
      subst e
      have HRk : Hid (Rd wr a' m ys) := HR'.out.below hb
      have hown0 := hown
      have hb0 := hb
      clear hown hb
      go_wp2
      go_loopw [7] (fun i wr => ∃ j : Nat, j ≤ m ∧ i = .int .i64 j ∧ wr.ownsRow w.heap.size 5 1 (.slice (some ⟨w.heap.size, 0, none⟩) (k + m) (k + m)) (k + m) ((fil (zs ++ ys) (k + m) (k + j)).map (Value.int .u8)) ∧ Below w.heap.size w wr) (fun i _ => m - (intOf i).toNat)
      case atStart => exact ⟨0, Nat.zero_le _, rfl, hown0, hb0⟩
      case round =>
        obtain ⟨j, hj, rfl, hown, hb⟩ := hrel
        clear hown0 hb0 HRk
        by_cases hltj : j < m
        · obtain ⟨b, off, hx, hc⟩ := HR'.out.2 j hltj
          have hbl : b < w.heap.size := World.block_lt_of_cell? w _ hc
          obtain ⟨y, hy⟩ : ∃ y, ys.getD j 0 = y := ⟨_, rfl⟩
          have hy2 : (zs ++ ys).getD (k + j) 0 = y := by
            rw [← hy]; have := HZ.out
            rw [List.getD_eq_getElem?_getD, List.getElem?_append_right (by omega), List.getD_eq_getElem?_getD]
            congr 2; omega
          rw [hy] at hc
          rename_i wr0 _ _ _ wr
          have hcr : wr.cell? ⟨b, off + j, none⟩ = some (.int .u8 y) := (hb.cell (p := ⟨b, off + j, none⟩) hbl).trans hc
          have hold := hown.cellAt (k + j) (by omega)
          rw [fil_getD (zs ++ ys) (k + m) (k + j) (k + j) HL.out (by omega) (by omega)] at hold
          obtain ⟨o, ho⟩ : ∃ o, (fil (zs ++ ys) (k + m) (k + j)).getD (k + j) 0 = o := ⟨_, rfl⟩
          rw [ho] at hold
          have hfz := hown.frozenAt (k + j)
          have R := hown.stored (k + j) (.int .u8 y)
          have Rown : Hid ((wr.setCell ⟨w.heap.size, k + j, none⟩ (.int .u8 y)).ownsRow w.heap.size 5 1 (.slice (some ⟨w.heap.size, 0, none⟩) (k + m) (k + m)) (k + m) ((fil (zs ++ ys) (k + m) (k + (j + 1))).map (Value.int .u8))) := by
            have e : ((fil (zs ++ ys) (k + m) (k + j)).map (Value.int .u8)).set (k + j) (.int .u8 y) = (fil (zs ++ ys) (k + m) (k + j + 1)).map (Value.int .u8) := by
              rw [← fil_set (zs ++ ys) (k + m) (k + j) HL.out (by omega), hy2, List.map_set]
            rw [← Nat.add_assoc, ← e]; exact R.1
          have Rb : Below w.heap.size w (wr.setCell ⟨w.heap.size, k + j, none⟩ (.int .u8 y)) := hb.setCell (Nat.le_refl _) _
          have hnm : (k : Int) + (j : Int) < (k : Int) + (m : Int) := by omega
          clear R hown hc ho hy hy2
          cases hx
          go_wp2
          go_roundw
          case rel => exact ⟨j + 1, by omega, by go_num, Rown.out, Rb⟩
          case measure => simp [intOf]; omega
        · have e : j = m := by omega
          subst e
          rw [fil_all (zs ++ ys) (k + j) (k + j) HL.out (Nat.le_refl _)] at hown
          go_wp2
          go_ret
          exact ⟨rfl, hown, hb⟩

end Go.Proofs.Qxb6616431a
