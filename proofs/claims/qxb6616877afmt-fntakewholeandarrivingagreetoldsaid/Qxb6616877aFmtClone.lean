/-
  cloneBytes (function 8): what it hands back reads as what it was given; nothing old has turned.
-/
import Derived.Test.Qxb6616877aFmtParts
namespace Go.Proofs.Qxb6616877aFmt
open Go.RowKit

set_option maxHeartbeats 400000 in
theorem clone_nil (c : Nat) (w : World) :
    Calls Tryf.prog 8 #[.slice none 0 c] w fun e w' => e = .returned (.slice none 0 0) ∧ w' = w := by
  have q30 : ∀ (w : World) (a : Option Addr) (n c n' c' : Nat), (binOp .eql 30 (.slice a n c) (.slice none n' c')).run Tryf.prog w = .ok (.bool a.isNone) w := fun w a n c n' c' => Lib.run_eql_slice_nil w _ _ a n c n' c' Tryf.underlying30
  go_enter Tryf.func8, Tryf.ntmps8
  go_wp2
  go_ret
  exact ⟨rfl, rfl⟩

set_option maxHeartbeats 400000 in
theorem clone_some (x : Addr) (n c : Nat) (zs : List Int) (w : World) (hr : Rd w (some x) n zs) (hn : n ≤ 4194304) :
    Calls Tryf.prog 8 #[.slice (some x) n c] w fun e w' => e = .returned (.slice (some ⟨w.heap.size, 0, none⟩) n n) ∧ w'.ownsRow w.heap.size 5 1 (.slice (some ⟨w.heap.size, 0, none⟩) n n) n (zs.map (Value.int .u8)) ∧ Below w.heap.size w w' := by
  have q30 : ∀ (w : World) (a : Option Addr) (n c n' c' : Nat), (binOp .eql 30 (.slice a n c) (.slice none n' c')).run Tryf.prog w = .ok (.bool a.isNone) w := fun w a n c n' c' => Lib.run_eql_slice_nil w _ _ a n c n' c' Tryf.underlying30
  obtain ⟨i0, hi, hz0, hz1, hz2⟩ := info_parts Tryf.info5
  have HR : Hid (Rd w (some x) n zs) := hr
  have hzl : zs.length = n := hr.1
  have HZ : Hid (zs.length = n) := hzl
  clear hr hzl
  go_enter Tryf.func8, Tryf.ntmps8
  go_wp2_with (first | (at_make; refine wpList_make_full _ rfl (.tmp 8) (.tmp 8) 30 rfl w.heap.size 5 i0 (.int .u8 0) 1 Tryf.underlying30 hi hz0 hz1 .i64 .i64 _ _ n rfl rfl rfl rfl (by rw [hz2]; omega) (by unfold maxLen; omega) (Nat.le_refl _) ?_; intro w1 hown hgrow) | fail)
  have hown0 : w1.ownsRow w.heap.size 5 1 (.slice (some ⟨w.heap.size, 0, none⟩) n n) n ((fil zs n 0).map (Value.int .u8)) := by
    rw [fil_zero]
    have : (madeCells (Value.cells (.int .u8 0)) (n * 1)).toList = (List.replicate n (0 : Int)).map (Value.int .u8) := by
      simp [Value.cells, toList_madeCells_one]
    rw [← this]; exact hown
  have hb0 : Below w.heap.size w w1 := (Below.refl _ _).grown hgrow (Nat.le_refl _) (by simp)
  clear hown hgrow hi hz0 hz1 hz2
  go_wp2
  go_loopw [4] (fun i wr => ∃ k : Nat, k ≤ n ∧ i = .int .i64 k ∧ wr.ownsRow w.heap.size 5 1 (.slice (some ⟨w.heap.size, 0, none⟩) n n) n ((fil zs n k).map (Value.int .u8)) ∧ Below w.heap.size w wr) (fun i _ => n - (intOf i).toNat)
  case atStart => exact ⟨0, Nat.zero_le _, rfl, hown0, hb0⟩
  case round =>
    obtain ⟨k, hk, rfl, hown, hb⟩ := hrel
    clear hown0 hb0
    by_cases hlt : k < n
    · obtain ⟨b, off, hx, hc⟩ := HR.out.2 k hlt
      have hbl : b < w.heap.size := World.block_lt_of_cell? w _ hc
      obtain ⟨y, hy⟩ : ∃ y, zs.getD k 0 = y := ⟨_, rfl⟩
      rw [hy] at hc
      have hcr : wr.cell? ⟨b, off + k, none⟩ = some (.int .u8 y) := (hb.cell (p := ⟨b, off + k, none⟩) hbl).trans hc
      have hold := hown.cellAt k (by omega)
      rw [fil_getD zs n k k HZ.out hk hlt] at hold
      obtain ⟨o, ho⟩ : ∃ o, (fil zs n k).getD k 0 = o := ⟨_, rfl⟩
      rw [ho] at hold
      have hfz := hown.frozenAt k
      have R := hown.stored k (.int .u8 y)
      have Rown : Hid ((wr.setCell ⟨w.heap.size, k, none⟩ (.int .u8 y)).ownsRow w.heap.size 5 1 (.slice (some ⟨w.heap.size, 0, none⟩) n n) n ((fil zs n (k + 1)).map (Value.int .u8))) := by
        have e : ((fil zs n k).map (Value.int .u8)).set k (.int .u8 y) = (fil zs n (k + 1)).map (Value.int .u8) := by
          rw [← fil_set zs n k HZ.out hlt, hy, List.map_set]
        rw [← e]; exact R.1
      have Rb : Below w.heap.size w (wr.setCell ⟨w.heap.size, k, none⟩ (.int .u8 y)) := hb.setCell (Nat.le_refl _) _
      clear R hown hc ho hy
      cases hx
      go_wp2
      go_roundw
      case rel => exact ⟨k + 1, by omega, by go_num, Rown.out, Rb⟩
      case measure => simp [intOf]; omega
    · have e : k = n := by omega
      subst e
      rw [fil_all zs k k HZ.out (Nat.le_refl _)] at hown
      go_wp2
      go_ret
      exact ⟨rfl, hown, hb⟩

/-- cloneBytes at every slice. -/
theorem clone_any (a : Option Addr) (n c : Nat) (zs : List Int) (w : World) (hr : Rd w a n zs) (hn : n ≤ 4194304) (h0 : a = none → n = 0) :
    Calls Tryf.prog 8 #[.slice a n c] w fun e w' => ∃ a', e = .returned (.slice a' n n) ∧ Rd w' a' n zs ∧ (a' = none → n = 0) ∧ Below w.heap.size w w' := by
  cases a with
  | none =>
    obtain rfl := h0 rfl
    refine (clone_nil c w).mono fun e w' ⟨he, hw⟩ => ?_
    subst hw
    exact ⟨none, he, hr, fun _ => rfl, Below.refl _ _⟩
  | some x =>
    refine (clone_some x n c zs w hr hn).mono fun e w' ⟨he, ho, hb⟩ => ?_
    exact ⟨_, he, Rd.ofOwns ho, fun h => by simp at h, hb⟩

end Go.Proofs.Qxb6616877aFmt
