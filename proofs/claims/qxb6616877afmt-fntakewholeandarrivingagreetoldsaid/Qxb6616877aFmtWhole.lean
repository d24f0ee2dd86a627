/-
  take (16) on a decoder of an encoding given whole.
-/
import Derived.Test.Qxb6616877aFmtFacts
namespace Go.Proofs.Qxb6616877aFmt
open Go.RowKit Go.Extern.Stop Go.Stop Go.Extern
set_option linter.unusedVariables false

theorem grownBy_then {w w1 w2 : World} {row : Option Nat} (h : w.grownBy w1 row) (k : w1.grownBy w2 none) : w.grownBy w2 row :=
  ⟨k.os.trans h.os, k.tape.trans h.tape, k.output.trans h.output, Nat.le_trans h.size k.size, fun i hi hne => (k.block i (Nat.lt_of_lt_of_le hi h.size) (by simp)).trans (h.block i hi hne)⟩

/-- The decoder of a whole encoding: what is left of it, its error. -/
def WSt (w : World) (g : Nat) (s : ByteArray) (a : Option Addr) (n c : Nat) (e : Value) : Prop :=
  w.heap[g]? = some (.cells #[.string s, .slice a n c, .nilIface, .slice none 0 0, e] 43 (0, 0))

set_option maxHeartbeats 400000 in
theorem whole_all (g : Nat) (s : ByteArray) (a : Option Addr) (n : Nat) (w : World) (hg : WSt w g s a n n .nilIface) (hn : n ≤ 4194304) :
    Calls Tryf.prog 16 #[.pointer (some ⟨g, 0, none⟩), .int .i64 n] w fun e w' => e = .returned (.slice a n n) ∧ w' = w.setCell ⟨g, 1, none⟩ (.slice a 0 0) := by
  have h1 : w.cell? ⟨g, 1, none⟩ = some (.slice a n n) := by rw [cell_of_row w g 1 _ 43 (0, 0) hg]; rfl
  have h2 : w.cell? ⟨g, 2, none⟩ = some .nilIface := by rw [cell_of_row w g 2 _ 43 (0, 0) hg]; rfl
  have h4 : w.cell? ⟨g, 4, none⟩ = some .nilIface := by rw [cell_of_row w g 4 _ 43 (0, 0) hg]; rfl
  have f1 : w.frozen? ⟨g, 1, none⟩ = false := frozen_of_row w g 1 _ 43 hg
  clear hg
  go_enter Tryf.func16, Tryf.ntmps16
  go_wp2
  go_ret
  exact ⟨rfl, rfl⟩

set_option maxHeartbeats 400000 in
theorem whole_some (g : Nat) (s : ByteArray) (b off n c k : Nat) (w : World) (hg : WSt w g s (some ⟨b, off, none⟩) n c .nilIface) (hk : k ≤ n) (hc : n ≤ c) (hck : ¬ c = k) (hn : n ≤ 4194304) :
    Calls Tryf.prog 16 #[.pointer (some ⟨g, 0, none⟩), .int .i64 k] w fun e w' => e = .returned (.slice (some ⟨b, off, none⟩) k c) ∧ w' = w.setCell ⟨g, 1, none⟩ (.slice (some ⟨b, off + k, none⟩) (n - k) (c - k)) := by
  have h1 : w.cell? ⟨g, 1, none⟩ = some (.slice (some ⟨b, off, none⟩) n c) := by rw [cell_of_row w g 1 _ 43 (0, 0) hg]; rfl
  have h2 : w.cell? ⟨g, 2, none⟩ = some .nilIface := by rw [cell_of_row w g 2 _ 43 (0, 0) hg]; rfl
  have h4 : w.cell? ⟨g, 4, none⟩ = some .nilIface := by rw [cell_of_row w g 4 _ 43 (0, 0) hg]; rfl
  have f1 : w.frozen? ⟨g, 1, none⟩ = false := frozen_of_row w g 1 _ 43 hg
  have hlt : ¬ (n : Int) < (k : Int) := by omega
  have hkc : (k : Int) ≤ (c : Int) := by omega
  clear hg
  go_enter Tryf.func16, Tryf.ntmps16
  go_wp2
  go_ret
  exact ⟨rfl, rfl⟩

theorem made_zero (n : Nat) : (madeCells (Value.cells (.int .u8 0)) (n * 1)).toList = (List.replicate n (0 : Int)).map (Value.int .u8) := by
  simp [Value.cells, toList_madeCells_one]

set_option maxHeartbeats 400000 in
theorem whole_failed (g : Nat) (s : ByteArray) (a : Option Addr) (n c k : Nat) (T : TypeId) (v : Value) (w : World) (hg : WSt w g s a n c (.iface T v)) (hk : k ≤ 4194304) :
    Calls Tryf.prog 16 #[.pointer (some ⟨g, 0, none⟩), .int .i64 k] w fun e w' => ∃ a1, e = .returned (.slice a1 k k) ∧ Rd w' a1 k (List.replicate k 0) ∧ (∀ b off, a1 = some ⟨b, off, none⟩ → w.heap.size ≤ b) ∧ w.grownBy w' none := by
  have h2 : w.cell? ⟨g, 2, none⟩ = some .nilIface := by rw [cell_of_row w g 2 _ 43 (0, 0) hg]; rfl
  have h4 : w.cell? ⟨g, 4, none⟩ = some (.iface T v) := by rw [cell_of_row w g 4 _ 43 (0, 0) hg]; rfl
  obtain ⟨i0, hi, hz0, hz1, hz2⟩ := info_parts Tryf.info5
  clear hg
  go_enter Tryf.func16, Tryf.ntmps16
  go_wp2_with (first | (at_make; refine wpList_make_full _ rfl (.tmp 35) (.tmp 35) 30 rfl w.heap.size 5 i0 (.int .u8 0) 1 Tryf.underlying30 hi hz0 hz1 .i64 .i64 _ _ k rfl rfl rfl rfl (by rw [hz2]; omega) (by unfold maxLen; omega) (Nat.le_refl _) ?_; intro w1 hown hgrow) | fail)
  rw [made_zero] at hown
  have HR : Hid (Rd w1 (some ⟨w.heap.size, 0, none⟩) k (List.replicate k 0)) := Rd.ofOwns hown
  have HG : Hid (w.grownBy w1 none) := hgrow
  clear hown hgrow hi hz0 hz1 hz2
  go_wp2
  go_ret
  exact ⟨_, rfl, HR.out, fun b off h => by simp at h; omega, HG.out⟩

set_option maxHeartbeats 400000 in
theorem whole_short (F : Interp) (g : Nat) (s : ByteArray) (a : Option Addr) (n c k : Nat) (w : World) (hF : F.answers w.tape) (hg : WSt w g s a n c .nilIface) (hnk : n < k) (hk : k ≤ 4194304) :
    Calls Tryf.prog 16 #[.pointer (some ⟨g, 0, none⟩), .int .i64 k] w fun e w' => ∃ a1 v, e = .returned (.slice a1 k k) ∧ Rd w' a1 k (List.replicate k 0) ∧ (∀ b off, a1 = some ⟨b, off, none⟩ → w.heap.size ≤ b) ∧ WSt w' g s a n c (.iface 53 v) ∧ w.grownBy w' (some g) := by
  have h1 : w.cell? ⟨g, 1, none⟩ = some (.slice a n c) := by rw [cell_of_row w g 1 _ 43 (0, 0) hg]; rfl
  have h2 : w.cell? ⟨g, 2, none⟩ = some .nilIface := by rw [cell_of_row w g 2 _ 43 (0, 0) hg]; rfl
  have h4 : w.cell? ⟨g, 4, none⟩ = some .nilIface := by rw [cell_of_row w g 4 _ 43 (0, 0) hg]; rfl
  have HC := fail_any F g s _ _ _ w hF hg
  have H : Hid (Calls Tryf.prog 22 #[.pointer (some ⟨g, 0, none⟩), .string ⟨#[99, 117, 116, 32, 115, 104, 111, 114, 116]⟩, .slice none 0 0] w fun e w' => e = .returned (.tuple #[]) ∧ ∃ v, w'.heap[g]? = some (.cells #[.string s, .slice a n c, .nilIface, .slice none 0 0, .iface 53 v] 43 (0, 0)) ∧ w.grownBy w' (some g)) := HC
  obtain ⟨i0, hi, hz0, hz1, hz2⟩ := info_parts Tryf.info5
  have hlt : (n : Int) < (k : Int) := by omega
  clear hg HC
  go_enter Tryf.func16, Tryf.ntmps16
  go_wp2_with fail
  refine H.out.mono ?_
  rintro e w1 ⟨rfl, v, hg1, hgr1⟩
  have k4 : w1.cell? ⟨g, 4, none⟩ = some (.iface 53 v) := by rw [cell_of_row w1 g 4 _ 43 (0, 0) hg1]; rfl
  have HG1 : Hid (WSt w1 g s a n c (.iface 53 v)) := hg1
  have HGR : Hid (w.grownBy w1 (some g)) := hgr1
  clear hg1 hgr1 h1 h2 h4 H
  go_wp2_with (first | (at_make; refine wpList_make_full _ rfl (.tmp 35) (.tmp 35) 30 rfl w1.heap.size 5 i0 (.int .u8 0) 1 Tryf.underlying30 hi hz0 hz1 .i64 .i64 _ _ k rfl rfl rfl rfl (by rw [hz2]; omega) (by unfold maxLen; omega) (Nat.le_refl _) ?_; intro w2 hown hgrow) | fail)
  rw [made_zero] at hown
  have HR : Hid (Rd w2 (some ⟨w1.heap.size, 0, none⟩) k (List.replicate k 0)) := Rd.ofOwns hown
  have HG2 : Hid (w1.grownBy w2 none) := hgrow
  clear hown hgrow hi hz0 hz1 hz2
  go_wp2
  go_ret
  exact ⟨_, v, rfl, HR.out, fun b off h => by have := HGR.out.size; simp at h; omega, (HG2.out.block g (by have := World.block_lt_of_cell? w1 _ k4; exact this) (by simp)).trans HG1.out, grownBy_then HGR.out HG2.out⟩

end Go.Proofs.Qxb6616877aFmt
