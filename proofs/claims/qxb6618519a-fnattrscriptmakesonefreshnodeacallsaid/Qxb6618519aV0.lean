/-
  The Rust v0 reader's enter (25), and what it calls; the maker (16), the fields (18).
-/
import Derived.Test.Qxb6618519aProg
import Derived.WalkKit
import Derived.WalkSpells
import Derived.WalkLawsBesides
import Derived.Deep.QuietTactic
import Derived.BigQuiet
namespace Go.Proofs.Qxb6618519a
open Go.RowKit
set_option linter.unusedVariables false

/-- The reader at block g. -/
def VSt (w : World) (g : Nat) (s : ByteArray) (depth : Int) (name : ByteArray) (e f st q b : Int) : Prop :=
  w.heap[g]? = some (.cells #[.string s, .int .i64 depth, .string name, .int .i64 e, .int .i64 f, .int .i64 st, .pointer none, .slice none 0 0, .int .i64 q, .int .i64 b] 66 (0, 0))

set_option maxHeartbeats 400000 in
theorem new_v0 (s : ByteArray) (depth : Int) (name : ByteArray) (e f st q b : Int) (w : World) :
    Calls Try.prog 16 #[.string s, .int .i64 depth, .string name, .int .i64 e, .int .i64 f, .int .i64 st, .int .i64 q, .int .i64 b] w fun en w' => ∃ g, en = .returned (.pointer (some ⟨g, 0, none⟩)) ∧ g = w.heap.size ∧ VSt w' g s depth name e f st q b ∧ Below w.heap.size w w' := by
  go_enter Try.func16, Try.ntmps16
  go_wp2
  go_ret
  exact ⟨w.heap.size, rfl, rfl, heap_alloc_new w _, (Below.refl _ _).alloc (Nat.le_refl _) _⟩

set_option maxHeartbeats 400000 in
theorem at_any (g : Nat) (s : ByteArray) (e : Int) (w : World) (h0 : w.cell? ⟨g, 0, none⟩ = some (.string s)) (h3 : w.cell? ⟨g, 3, none⟩ = some (.int .i64 e)) (he0 : 0 ≤ e) (he1 : e ≤ 1048576) (hs : s.size ≤ 1048576) :
    Calls Try.prog 33 #[.pointer (some ⟨g, 0, none⟩)] w fun en w' => en = .returned (.int .i64 (e - (s.size : Int))) ∧ ∃ q, w' = w.drewN q := by
  go_enter Try.func33, Try.ntmps33
  go_wp2
  go_quiet (fail)
  go_wp2
  go_ret
  exact ⟨rfl, _, rfl⟩

set_option maxHeartbeats 400000 in
theorem renter_any (g : Nat) (d : Int) (w : World) (h1 : w.cell? ⟨g, 1, none⟩ = some (.int .i64 d)) (f1 : w.frozen? ⟨g, 1, none⟩ = false) (hd0 : 0 ≤ d) (hd1 : d < 512) :
    Calls Try.prog 31 #[.pointer (some ⟨g, 0, none⟩)] w fun en w' => en = .returned (.tuple #[]) ∧ w' = w.setCell ⟨g, 1, none⟩ (.int .i64 (d + 1)) := by
  go_enter Try.func31, Try.ntmps31
  go_wp2
  go_end0
  exact ⟨rfl, rfl⟩

theorem grown_set {w : World} (g o : Nat) (v : Value) : w.grownBy (w.setCell ⟨g, o, none⟩ v) (some g) :=
  ⟨rfl, rfl, rfl, by simp [World.setCell], fun k _ hk => heap_setCell_other w ⟨g, o, none⟩ k v (fun e => hk (by rw [e]))⟩
theorem grown_trans {w w1 w2 : World} {row : Option Nat} (h : w.grownBy w1 row) (k : w1.grownBy w2 row) : w.grownBy w2 row :=
  ⟨k.os.trans h.os, k.tape.trans h.tape, k.output.trans h.output, Nat.le_trans h.size k.size, fun i hi hne => (k.block i (Nat.lt_of_lt_of_le hi h.size) hne).trans (h.block i hi hne)⟩
theorem grown_drewN {w w1 : World} {row : Option Nat} (h : w.grownBy w1 row) (n : Nat) : w.grownBy (w1.drewN n) row := ⟨h.os, h.tape, h.output, h.size, h.block⟩

set_option maxHeartbeats 400000 in
theorem spend_any (g : Nat) (s : ByteArray) (depth : Int) (name : ByteArray) (e f st q b : Int) (w : World) (hv : VSt w g s depth name e f st q b)
    (he0 : (s.size : Int) ≤ e) (he1 : e ≤ 1048576) (hs : s.size ≤ 1048576) (hf0 : 0 ≤ f) (hf1 : f ≤ e - s.size) (hst0 : 0 ≤ st) (hst1 : st ≤ 1048576 - (e - s.size - f)) :
    Calls Try.prog 30 #[.pointer (some ⟨g, 0, none⟩), .int .i64 0] w fun en w' => en = .returned (.tuple #[]) ∧ VSt w' g s depth name e f st q b ∧ w.grownBy w' (some g) := by
  have h0 : w.cell? ⟨g, 0, none⟩ = some (.string s) := by rw [cell_of_row w g 0 _ 66 (0, 0) hv]; rfl
  have h3 : w.cell? ⟨g, 3, none⟩ = some (.int .i64 e) := by rw [cell_of_row w g 3 _ 66 (0, 0) hv]; rfl
  have h4 : w.cell? ⟨g, 4, none⟩ = some (.int .i64 f) := by rw [cell_of_row w g 4 _ 66 (0, 0) hv]; rfl
  have h5 : w.cell? ⟨g, 5, none⟩ = some (.int .i64 st) := by rw [cell_of_row w g 5 _ 66 (0, 0) hv]; rfl
  have f5 : w.frozen? ⟨g, 5, none⟩ = false := frozen_of_row w g 5 _ 66 hv
  have HV : Hid (VSt w g s depth name e f st q b) := hv
  clear hv
  go_enter Try.func30, Try.ntmps30
  go_wp2
  obtain ⟨W1, hW1⟩ : ∃ W1, w.setCell ⟨g, 5, none⟩ (.int .i64 st) = W1 := ⟨_, rfl⟩
  rw [hW1]
  have hv1 : VSt W1 g s depth name e f st q b := by
    unfold VSt
    rw [← hW1, heap_setCell_same w g 5 _ 66 _ HV.out]; rfl
  have HG1 : Hid (w.grownBy W1 (some g)) := by rw [← hW1]; exact grown_set g 5 _
  have k0 : W1.cell? ⟨g, 0, none⟩ = some (.string s) := by rw [cell_of_row W1 g 0 _ 66 (0, 0) hv1]; rfl
  have k3 : W1.cell? ⟨g, 3, none⟩ = some (.int .i64 e) := by rw [cell_of_row W1 g 3 _ 66 (0, 0) hv1]; rfl
  have k4 : W1.cell? ⟨g, 4, none⟩ = some (.int .i64 f) := by rw [cell_of_row W1 g 4 _ 66 (0, 0) hv1]; rfl
  have k5 : W1.cell? ⟨g, 5, none⟩ = some (.int .i64 st) := by rw [cell_of_row W1 g 5 _ 66 (0, 0) hv1]; rfl
  have HV1 : Hid (VSt W1 g s depth name e f st q b) := hv1
  clear hv1 hW1 h0 h3 h4 h5 f5 HV
  go_quiet ((go_at_call 33; exact Calls.quiet_of (at_any g s e _ k0 k3 (by omega) he1 hs)))
  go_wp2
  go_end0
  exact ⟨rfl, HV1.out, grown_drewN HG1.out _⟩

set_option maxHeartbeats 400000 in
theorem enter_any (g : Nat) (s : ByteArray) (depth : Int) (name : ByteArray) (e f st q b : Int) (w : World) (hv : VSt w g s depth name e f st q b)
    (he0 : (s.size : Int) ≤ e) (he1 : e ≤ 1048576) (hs : s.size ≤ 1048576) (hf0 : 0 ≤ f) (hf1 : f ≤ e - s.size) (hst0 : 0 ≤ st) (hst1 : st ≤ 1048576 - (e - s.size - f)) (hd0 : 0 ≤ depth) (hd1 : depth < 512) :
    Calls Try.prog 25 #[.pointer (some ⟨g, 0, none⟩)] w fun en w' => en = .returned (.tuple #[]) ∧ VSt w' g s (depth + 1) name e f st q b ∧ w.grownBy w' (some g) := by
  have H : Hid (Calls Try.prog 30 #[.pointer (some ⟨g, 0, none⟩), .int .i64 0] w fun en w' => en = .returned (.tuple #[]) ∧ VSt w' g s depth name e f st q b ∧ w.grownBy w' (some g)) :=
    spend_any g s depth name e f st q b w hv he0 he1 hs hf0 hf1 hst0 hst1
  clear hv
  go_enter Try.func25, Try.ntmps25
  go_wp2_with fail
  refine H.out.mono ?_
  rintro en w1 ⟨rfl, hv1, hg1⟩
  have k1 : w1.cell? ⟨g, 1, none⟩ = some (.int .i64 depth) := by rw [cell_of_row w1 g 1 _ 66 (0, 0) hv1]; rfl
  have f1 : w1.frozen? ⟨g, 1, none⟩ = false := frozen_of_row w1 g 1 _ 66 hv1
  have HV1 : Hid (VSt w1 g s depth name e f st q b) := hv1
  have HG1 : Hid (w.grownBy w1 (some g)) := hg1
  clear hv1 hg1 H
  go_wp2_with fail
  refine (renter_any g depth w1 k1 f1 hd0 hd1).mono ?_
  rintro en w2 ⟨rfl, hw2⟩
  have HV2 : Hid (VSt w2 g s (depth + 1) name e f st q b) := by
    show w2.heap[g]? = _
    rw [hw2, heap_setCell_same w1 g 1 _ 66 _ HV1.out]; rfl
  have HG2 : Hid (w.grownBy w2 (some g)) := by rw [hw2]; exact grown_trans HG1.out (grown_set g 1 _)
  clear hw2 k1 f1 HV1 HG1
  go_wp2
  go_end0
  exact ⟨rfl, HV2.out, HG2.out⟩

set_option maxHeartbeats 400000 in
theorem zz_enter (g : Nat) (s : ByteArray) (depth : Int) (name : ByteArray) (e f st q b : Int) (w : World) (hv : VSt w g s depth name e f st q b)
    (he0 : (s.size : Int) ≤ e) (he1 : e ≤ 1048576) (hs : s.size ≤ 1048576) (hf0 : 0 ≤ f) (hf1 : f ≤ e - s.size) (hst0 : 0 ≤ st) (hst1 : st ≤ 1048576 - (e - s.size - f)) (hd0 : 0 ≤ depth) (hd1 : depth < 512) :
    Calls Try.prog 17 #[.pointer (some ⟨g, 0, none⟩)] w fun en w' => en = .returned (.tuple #[]) ∧ VSt w' g s (depth + 1) name e f st q b ∧ w.grownBy w' (some g) := by
  have H : Hid (Calls Try.prog 25 #[.pointer (some ⟨g, 0, none⟩)] w fun en w' => en = .returned (.tuple #[]) ∧ VSt w' g s (depth + 1) name e f st q b ∧ w.grownBy w' (some g)) :=
    enter_any g s depth name e f st q b w hv he0 he1 hs hf0 hf1 hst0 hst1 hd0 hd1
  clear hv
  go_enter Try.func17, Try.ntmps17
  go_wp2_with fail
  refine H.out.mono ?_
  rintro en w1 ⟨rfl, hv1, hg1⟩
  have HV1 : Hid (VSt w1 g s (depth + 1) name e f st q b) := hv1
  have HG1 : Hid (w.grownBy w1 (some g)) := hg1
  clear hv1 hg1 H
  go_wp2
  go_end0
  exact ⟨rfl, HV1.out, HG1.out⟩

set_option maxHeartbeats 400000 in
theorem len_any (g : Nat) (w : World) (h7 : w.cell? ⟨g, 7, none⟩ = some (.slice none 0 0)) :
    Calls Try.prog 26 #[.pointer (some ⟨g, 6, none⟩)] w fun en w' => en = .returned (.int .i64 0) ∧ w' = w := by
  go_enter Try.func26, Try.ntmps26
  go_wp2
  go_ret
  exact ⟨rfl, rfl⟩

set_option maxHeartbeats 1000000 in
theorem fields_any (g : Nat) (s : ByteArray) (depth : Int) (name : ByteArray) (e f st q b : Int) (w : World) (hv : VSt w g s depth name e f st q b) :
    Calls Try.prog 18 #[.pointer (some ⟨g, 0, none⟩)] w fun en w' => en = .returned (.tuple #[.string s, .int .i64 depth, .string name, .int .i64 e, .int .i64 f, .int .i64 st, .int .i64 q, .int .i64 b, .int .i64 0]) ∧ Below w.heap.size w w' := by
  have k0 : w.cell? ⟨g, 0, none⟩ = some (.string s) := by rw [cell_of_row w g 0 _ 66 (0, 0) hv]; rfl
  have k1 : w.cell? ⟨g, 1, none⟩ = some (.int .i64 depth) := by rw [cell_of_row w g 1 _ 66 (0, 0) hv]; rfl
  have k2 : w.cell? ⟨g, 2, none⟩ = some (.string name) := by rw [cell_of_row w g 2 _ 66 (0, 0) hv]; rfl
  have k3 : w.cell? ⟨g, 3, none⟩ = some (.int .i64 e) := by rw [cell_of_row w g 3 _ 66 (0, 0) hv]; rfl
  have k4 : w.cell? ⟨g, 4, none⟩ = some (.int .i64 f) := by rw [cell_of_row w g 4 _ 66 (0, 0) hv]; rfl
  have k5 : w.cell? ⟨g, 5, none⟩ = some (.int .i64 st) := by rw [cell_of_row w g 5 _ 66 (0, 0) hv]; rfl
  have k7 : w.cell? ⟨g, 7, none⟩ = some (.slice none 0 0) := by rw [cell_of_row w g 7 _ 66 (0, 0) hv]; rfl
  have k8 : w.cell? ⟨g, 8, none⟩ = some (.int .i64 q) := by rw [cell_of_row w g 8 _ 66 (0, 0) hv]; rfl
  have k9 : w.cell? ⟨g, 9, none⟩ = some (.int .i64 b) := by rw [cell_of_row w g 9 _ 66 (0, 0) hv]; rfl
  clear hv
  go_enter Try.func18, Try.ntmps18
  go_wp2
  go_quiet ((go_at_call 26; exact Calls.quiet_of_same (len_any g _ k7)))
  go_wp2
  exact bodyPost_ret (v := .tuple #[.string s, .int .i64 depth, .string name, .int .i64 e, .int .i64 f, .int .i64 st, .int .i64 q, .int .i64 b, .int .i64 0]) (by simp [results, Try.results18, go_sem]) rfl ⟨rfl, below_drewN (Below.refl _ _) _⟩

end Go.Proofs.Qxb6618519a
