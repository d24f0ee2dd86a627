/-
  (*Object).End (function 11) at an object without an error that has members.
-/
import Derived.Test.Qxb6616431aSame
namespace Go.Proofs.Qxb6616431a
open Go.RowKit

theorem Rd.olds {w : World} {a : Option Addr} {n : Nat} {zs : List Int} (h : Rd w a n zs) :
    ∀ b, a = some b → ∀ j u, (zs.map (Value.int .u8))[j]? = some u → w.cell? (b.add j) = some u := by
  intro b hb j u hu
  have hj : j < n := by
    have := (List.getElem?_eq_some_iff.1 hu).1
    have h1 := h.1
    simp at this; omega
  obtain ⟨b', off, ha, hc⟩ := h.2 j hj
  rw [hb] at ha
  cases ha
  rw [Addr.add_lit, hc]
  rw [List.getElem?_map, List.getElem?_eq_getElem (by have := h.1; omega)] at hu
  simp only [Option.map_some, Option.some.injEq] at hu
  rw [← hu, List.getD_eq_getElem?_getD, List.getElem?_eq_getElem (by have := h.1; omega)]
  rfl

set_option maxHeartbeats 400000 in
theorem end_any (g n : Nat) (a : Option Addr) (st : Int) (zs : List Int) (w : World) (h0 : w.cell? ⟨g, 0, none⟩ = some (.slice a n n)) (h1 : w.cell? ⟨g, 1, none⟩ = some (.int .i64 st)) (h2 : w.cell? ⟨g, 2, none⟩ = some .nilIface)
    (hst : ((n : Int) == st) = false) (hr : Rd w a n zs) (hnone : a = none → n = 0) (hn : n ≤ 4194304) :
    Calls Try.prog 11 #[.pointer (some ⟨g, 0, none⟩)] w fun e w' => ∃ a' c', e = .returned (.tuple #[.slice a' (n + 1) c', .nilIface]) ∧ Rd w' a' (n + 1) (zs ++ [125]) ∧ Below w.heap.size w w' := by
  obtain ⟨i0, hi, hz0, hz1, hz2⟩ := info_parts Try.info5
  have HR : Hid (Rd w a n zs) := hr
  have HN : Hid (a = none → n = 0) := hnone
  clear hr hnone
  go_enter Try.func11, Try.ntmps11
  go_wp2
  go_quiet (fail)
  have hr2 : Rd ((w.drewN nq).alloc (.cells #[.int .u8 125] 5)) a n zs := HR.out.below ((below_drewN (Below.refl _ _) _).alloc (Nat.le_refl _) _)
  have HR2 : Hid (Rd ((w.drewN nq).alloc (.cells #[.int .u8 125] 5)) a n zs) := hr2
  clear hr2
  go_wp2_with (first | (at_builtin; refine wpList_append_grows _ rfl (.tmp 33) (.tmp 34) 22 rfl 5 i0 (.int .u8 0) 1 1 Try.underlying22 hi hz0 hz1 hz2 rfl (by decide) a n n (zs.map (Value.int .u8)) rfl (fun h => ⟨HN.out h, HN.out h⟩) (by have := HR.out.1; simp; omega) HR2.out.olds ⟨w.heap.size, 0, none⟩ 1 1 [.int .u8 125] rfl rfl (cell_one_new _ _ _) (by intro u hu; simp at hu; subst hu; rfl) (by omega) (by unfold maxLen; omega) (by omega) ?_; intro v' w1 hown hgrow) | fail)
  have hb : Below w.heap.size w w1 := ((below_drewN (Below.refl _ _) _).alloc (Nat.le_refl _) _).grown hgrow (by simp [World.drewN]) (by simp)
  have hex : ∃ a' c', v' = .slice a' (n + 1) c' := by
    rcases hown.2 with ⟨_, h⟩ | ⟨g', cap', cur, h, _⟩
    · omega
    · exact ⟨_, _, h⟩
  obtain ⟨a', c', hv⟩ := hex
  rw [hv] at hown ⊢
  have hR : Rd w1 a' (n + 1) (zs ++ [125]) := by
    refine Rd.ofOwns (base := ((w.drewN nq).alloc (.cells #[.int .u8 125] 5)).heap.size) (c := c') ?_
    rw [List.map_append]; exact hown
  clear hown hgrow hi hz0 hz1 hz2
  go_wp2
  go_ret2
  exact ⟨a', c', rfl, hR, hb⟩

end Go.Proofs.Qxb6616431a
