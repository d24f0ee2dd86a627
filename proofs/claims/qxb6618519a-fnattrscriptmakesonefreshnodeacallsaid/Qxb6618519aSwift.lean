/-
  The Swift builder's attr (27), and what it calls; the maker (20), the fields (22, 23).
-/
import Derived.Test.Qxb6618519aV0
namespace Go.Proofs.Qxb6618519a
open Go.RowKit
set_option linter.unusedVariables false

/-- The builder at block g. -/
def BSt (w : World) (g : Nat) (s : ByteArray) (depth st hd mh : Int) (bd : Bool) : Prop :=
  w.heap[g]? = some (.cells #[.string s, .int .i64 depth, .slice none 0 0, .int .i64 st, .int .i64 hd, .int .i64 mh, .pointer none, .map none, .bool bd] 71 (0, 0))

/-- An attribute's node at block g. -/
def NSt (w : World) (g : Nat) (t : ByteArray) : Prop :=
  w.heap[g]? = some (.cells #[.int .u8 90, .string t, .int .i64 0, .slice none 0 0, .int .i64 1] 75 (0, 0))

set_option maxHeartbeats 400000 in
theorem new_sw (s : ByteArray) (depth st hd mh : Int) (bd : Bool) (w : World) :
    Calls Try.prog 20 #[.string s, .int .i64 depth, .int .i64 st, .int .i64 hd, .int .i64 mh, .bool bd] w fun en w' => ∃ g, en = .returned (.pointer (some ⟨g, 0, none⟩)) ∧ g = w.heap.size ∧ BSt w' g s depth st hd mh bd ∧ Below w.heap.size w w' := by
  go_enter Try.func20, Try.ntmps20
  go_wp2
  go_ret
  exact ⟨w.heap.size, rfl, rfl, heap_alloc_new w _, (Below.refl _ _).alloc (Nat.le_refl _) _⟩

set_option maxHeartbeats 1000000 in
theorem step_any (g : Nat) (s : ByteArray) (depth st hd mh : Int) (bd : Bool) (w : World) (hv : BSt w g s depth st hd mh bd) (h1 : 0 ≤ st) (h2 : st + 1 ≤ 1048576) (h3 : 0 ≤ hd) (h4 : hd + 1 ≤ mh) (h5 : mh ≤ 9223372036854775807) :
    Calls Try.prog 35 #[.pointer (some ⟨g, 0, none⟩), .int .i64 1, .int .i64 1] w fun en w' => en = .returned (.tuple #[]) ∧ BSt w' g s depth (st + 1) (hd + 1) mh bd ∧ w.grownBy w' (some g) := by
  have k3 : w.cell? ⟨g, 3, none⟩ = some (.int .i64 st) := by rw [cell_of_row w g 3 _ 71 (0, 0) hv]; rfl
  have k4 : w.cell? ⟨g, 4, none⟩ = some (.int .i64 hd) := by rw [cell_of_row w g 4 _ 71 (0, 0) hv]; rfl
  have f3 : w.frozen? ⟨g, 3, none⟩ = false := frozen_of_row w g 3 _ 71 hv
  have f4 : w.frozen? ⟨g, 4, none⟩ = false := frozen_of_row w g 4 _ 71 hv
  have HV : Hid (BSt w g s depth st hd mh bd) := hv
  clear hv
  go_enter Try.func35, Try.ntmps35
  go_wp2
  obtain ⟨W1, hW1⟩ : ∃ W1, (w.setCell ⟨g, 3, none⟩ (.int .i64 (st + 1))).setCell ⟨g, 4, none⟩ (.int .i64 (hd + 1)) = W1 := ⟨_, rfl⟩
  rw [hW1]
  have hv1 : BSt W1 g s depth (st + 1) (hd + 1) mh bd := by
    have q1 : (w.setCell ⟨g, 3, none⟩ (.int .i64 (st + 1))).heap[g]? = some (.cells #[.string s, .int .i64 depth, .slice none 0 0, .int .i64 (st + 1), .int .i64 hd, .int .i64 mh, .pointer none, .map none, .bool bd] 71 (0, 0)) := by
      rw [heap_setCell_same w g 3 _ 71 _ HV.out]; rfl
    unfold BSt
    rw [← hW1, heap_setCell_same _ g 4 _ 71 _ q1]; rfl
  have HG1 : Hid (w.grownBy W1 (some g)) := by rw [← hW1]; exact grown_trans (grown_set g 3 _) (grown_set g 4 _)
  have j3 : W1.cell? ⟨g, 3, none⟩ = some (.int .i64 (st + 1)) := by rw [cell_of_row W1 g 3 _ 71 (0, 0) hv1]; rfl
  have j4 : W1.cell? ⟨g, 4, none⟩ = some (.int .i64 (hd + 1)) := by rw [cell_of_row W1 g 4 _ 71 (0, 0) hv1]; rfl
  have j5 : W1.cell? ⟨g, 5, none⟩ = some (.int .i64 mh) := by rw [cell_of_row W1 g 5 _ 71 (0, 0) hv1]; rfl
  have HV1 : Hid (BSt W1 g s depth (st + 1) (hd + 1) mh bd) := hv1
  have d1 : decide ((1048576 : Int) < st + 1) = false := decide_eq_false (by omega)
  clear hv1 hW1 k3 k4 f3 f4 HV
  go_quiet (fail)
  go_wp2
  go_end0
  exact ⟨rfl, HV1.out, grown_drewN HG1.out _⟩

theorem grown_alloc {w w1 : World} {row : Option Nat} (h : w.grownBy w1 row) (o : Obj) : w.grownBy (w1.alloc o) row :=
  ⟨h.os, h.tape, h.output, by simp; have := h.size; omega, fun i hi hne => (Below.heap_alloc w1 o i (by have := h.size; omega)).trans (h.block i hi hne)⟩
theorem lt_of_block {w : World} {g : Nat} {o : Obj} (h : w.heap[g]? = some o) : g < w.heap.size := by
  rcases Nat.lt_or_ge g w.heap.size with h' | h'
  · exact h'
  · rw [Array.getElem?_eq_none h'] at h; cases h

set_option maxRecDepth 100000 in
set_option maxHeartbeats 1000000 in
theorem node_any (g : Nat) (s t : ByteArray) (depth st hd mh : Int) (bd : Bool) (w : World) (hv : BSt w g s depth st hd mh bd) (h1 : 0 ≤ st) (h2 : st + 1 ≤ 1048576) (h3 : 0 ≤ hd) (h4 : hd + 1 ≤ mh) (h5 : mh ≤ 9223372036854775807) :
    Calls Try.prog 32 #[.pointer (some ⟨g, 0, none⟩), .int .u8 90, .string t, .int .i64 0, .slice none 0 0] w fun en w' => ∃ gN, en = .returned (.pointer (some ⟨gN, 0, none⟩)) ∧ NSt w' gN t ∧ BSt w' g s depth (st + 1) (hd + 1) mh bd ∧ w.grownBy w' (some g) := by
  have H : Hid (Calls Try.prog 35 #[.pointer (some ⟨g, 0, none⟩), .int .i64 1, .int .i64 1] w fun en w' => en = .returned (.tuple #[]) ∧ BSt w' g s depth (st + 1) (hd + 1) mh bd ∧ w.grownBy w' (some g)) :=
    step_any g s depth st hd mh bd w hv h1 h2 h3 h4 h5
  clear hv
  go_enter Try.func32, Try.ntmps32
  go_wp2_with fail
  refine H.out.mono ?_
  rintro en w1 ⟨rfl, hv1, hg1⟩
  have HV1 : Hid (BSt w1 g s depth (st + 1) (hd + 1) mh bd) := hv1
  have HG1 : Hid (w.grownBy w1 (some g)) := hg1
  clear hv1 hg1 H
  go_wp2
  refine wp_loop_rounds 1 ?_
  rw [rounds_succ]
  go_wp2
  go_ret
  exact ⟨w1.heap.size, rfl, heap_alloc_new w1 _, (Below.heap_alloc w1 _ g (lt_of_block HV1.out)).trans HV1.out, grown_alloc HG1.out _⟩

set_option maxHeartbeats 400000 in
theorem attr_any (g : Nat) (s t : ByteArray) (depth st hd mh : Int) (bd : Bool) (w : World) (hv : BSt w g s depth st hd mh bd) (h1 : 0 ≤ st) (h2 : st + 1 ≤ 1048576) (h3 : 0 ≤ hd) (h4 : hd + 1 ≤ mh) (h5 : mh ≤ 9223372036854775807) :
    Calls Try.prog 27 #[.pointer (some ⟨g, 0, none⟩), .string t] w fun en w' => ∃ gN, en = .returned (.pointer (some ⟨gN, 0, none⟩)) ∧ NSt w' gN t ∧ BSt w' g s depth (st + 1) (hd + 1) mh bd ∧ w.grownBy w' (some g) := by
  have H : Hid (Calls Try.prog 32 #[.pointer (some ⟨g, 0, none⟩), .int .u8 90, .string t, .int .i64 0, .slice none 0 0] w fun en w' => ∃ gN, en = .returned (.pointer (some ⟨gN, 0, none⟩)) ∧ NSt w' gN t ∧ BSt w' g s depth (st + 1) (hd + 1) mh bd ∧ w.grownBy w' (some g)) :=
    node_any g s t depth st hd mh bd w hv h1 h2 h3 h4 h5
  clear hv
  go_enter Try.func27, Try.ntmps27
  go_wp2_with fail
  refine H.out.mono ?_
  rintro en w1 ⟨gN, rfl, hn1, hv1, hg1⟩
  have HN1 : Hid (NSt w1 gN t) := hn1
  have HV1 : Hid (BSt w1 g s depth (st + 1) (hd + 1) mh bd) := hv1
  have HG1 : Hid (w.grownBy w1 (some g)) := hg1
  clear hn1 hv1 hg1 H
  go_wp2
  go_ret
  exact ⟨gN, rfl, HN1.out, HV1.out, HG1.out⟩

set_option maxHeartbeats 400000 in
theorem zz_attr (g : Nat) (s t : ByteArray) (depth st hd mh : Int) (bd : Bool) (w : World) (hv : BSt w g s depth st hd mh bd) (h1 : 0 ≤ st) (h2 : st + 1 ≤ 1048576) (h3 : 0 ≤ hd) (h4 : hd + 1 ≤ mh) (h5 : mh ≤ 9223372036854775807) :
    Calls Try.prog 21 #[.pointer (some ⟨g, 0, none⟩), .string t] w fun en w' => ∃ gN, en = .returned (.pointer (some ⟨gN, 0, none⟩)) ∧ NSt w' gN t ∧ BSt w' g s depth (st + 1) (hd + 1) mh bd ∧ w.grownBy w' (some g) := by
  have H : Hid (Calls Try.prog 27 #[.pointer (some ⟨g, 0, none⟩), .string t] w fun en w' => ∃ gN, en = .returned (.pointer (some ⟨gN, 0, none⟩)) ∧ NSt w' gN t ∧ BSt w' g s depth (st + 1) (hd + 1) mh bd ∧ w.grownBy w' (some g)) :=
    attr_any g s t depth st hd mh bd w hv h1 h2 h3 h4 h5
  clear hv
  go_enter Try.func21, Try.ntmps21
  go_wp2_with fail
  refine H.out.mono ?_
  rintro en w1 ⟨gN, rfl, hn1, hv1, hg1⟩
  have HN1 : Hid (NSt w1 gN t) := hn1
  have HV1 : Hid (BSt w1 g s depth (st + 1) (hd + 1) mh bd) := hv1
  have HG1 : Hid (w.grownBy w1 (some g)) := hg1
  clear hn1 hv1 hg1 H
  go_wp2
  go_ret
  exact ⟨gN, rfl, HN1.out, HV1.out, HG1.out⟩

set_option maxHeartbeats 1000000 in
theorem node_fields (g : Nat) (t : ByteArray) (w : World) (hv : NSt w g t) :
    Calls Try.prog 22 #[.pointer (some ⟨g, 0, none⟩)] w fun en w' => en = .returned (.tuple #[.int .u8 90, .string t, .int .i64 0, .int .i64 0, .int .i64 1]) ∧ Below w.heap.size w w' := by
  have k0 : w.cell? ⟨g, 0, none⟩ = some (.int .u8 90) := by rw [cell_of_row w g 0 _ 75 (0, 0) hv]; rfl
  have k1 : w.cell? ⟨g, 1, none⟩ = some (.string t) := by rw [cell_of_row w g 1 _ 75 (0, 0) hv]; rfl
  have k2 : w.cell? ⟨g, 2, none⟩ = some (.int .i64 0) := by rw [cell_of_row w g 2 _ 75 (0, 0) hv]; rfl
  have k3 : w.cell? ⟨g, 3, none⟩ = some (.slice none 0 0) := by rw [cell_of_row w g 3 _ 75 (0, 0) hv]; rfl
  have k4 : w.cell? ⟨g, 4, none⟩ = some (.int .i64 1) := by rw [cell_of_row w g 4 _ 75 (0, 0) hv]; rfl
  clear hv
  go_enter Try.func22, Try.ntmps22
  go_wp2
  go_quiet (fail)
  go_wp2
  exact bodyPost_ret (v := .tuple #[.int .u8 90, .string t, .int .i64 0, .int .i64 0, .int .i64 1]) (by simp [results, Try.results22, go_sem]) rfl ⟨rfl, below_drewN (Below.refl _ _) _⟩

set_option maxHeartbeats 1000000 in
theorem builder_fields (g : Nat) (s : ByteArray) (depth st hd mh : Int) (bd : Bool) (w : World) (hv : BSt w g s depth st hd mh bd) :
    Calls Try.prog 23 #[.pointer (some ⟨g, 0, none⟩)] w fun en w' => en = .returned (.tuple #[.string s, .int .i64 depth, .int .i64 st, .int .i64 hd, .int .i64 mh, .bool bd, .int .i64 0, .int .i64 0, .bool false]) ∧ Below w.heap.size w w' := by
  have k0 : w.cell? ⟨g, 0, none⟩ = some (.string s) := by rw [cell_of_row w g 0 _ 71 (0, 0) hv]; rfl
  have k1 : w.cell? ⟨g, 1, none⟩ = some (.int .i64 depth) := by rw [cell_of_row w g 1 _ 71 (0, 0) hv]; rfl
  have k2 : w.cell? ⟨g, 2, none⟩ = some (.slice none 0 0) := by rw [cell_of_row w g 2 _ 71 (0, 0) hv]; rfl
  have k3 : w.cell? ⟨g, 3, none⟩ = some (.int .i64 st) := by rw [cell_of_row w g 3 _ 71 (0, 0) hv]; rfl
  have k4 : w.cell? ⟨g, 4, none⟩ = some (.int .i64 hd) := by rw [cell_of_row w g 4 _ 71 (0, 0) hv]; rfl
  have k5 : w.cell? ⟨g, 5, none⟩ = some (.int .i64 mh) := by rw [cell_of_row w g 5 _ 71 (0, 0) hv]; rfl
  have k6 : w.cell? ⟨g, 6, none⟩ = some (.pointer none) := by rw [cell_of_row w g 6 _ 71 (0, 0) hv]; rfl
  have k7 : w.cell? ⟨g, 7, none⟩ = some (.map none) := by rw [cell_of_row w g 7 _ 71 (0, 0) hv]; rfl
  have k8 : w.cell? ⟨g, 8, none⟩ = some (.bool bd) := by rw [cell_of_row w g 8 _ 71 (0, 0) hv]; rfl
  clear hv
  go_enter Try.func23, Try.ntmps23
  go_wp2
  go_quiet (fail)
  go_wp2
  exact bodyPost_ret (v := .tuple #[.string s, .int .i64 depth, .int .i64 st, .int .i64 hd, .int .i64 mh, .bool bd, .int .i64 0, .int .i64 0, .bool false]) (by simp [results, Try.results23, go_sem]) rfl ⟨rfl, below_drewN (Below.refl _ _) _⟩

end Go.Proofs.Qxb6618519a
