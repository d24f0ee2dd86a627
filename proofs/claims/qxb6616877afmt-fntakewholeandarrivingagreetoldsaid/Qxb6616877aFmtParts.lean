/-
  Small laws on rows of bytes, of whatever program: what a slice of bytes reads as ('Rd'), carried over 'Below'.
-/
import Derived.Test.Qxb6616877aFmtProg
import Derived.WalkKit
import Derived.WalkSpells
import Derived.WalkLawsBesides
import Derived.Deep.QuietTactic
import Derived.BigQuiet
namespace Go.Proofs.Qxb6616877aFmt
open Go.RowKit

/-- The slice at 'a' of 'n' elements reads as the numbers 'zs' (bytes). -/
def Rd (w : World) (a : Option Addr) (n : Nat) (zs : List Int) : Prop :=
  zs.length = n ∧ ∀ i, i < n → ∃ b off, a = some ⟨b, off, none⟩ ∧ w.cell? ⟨b, off + i, none⟩ = some (.int .u8 (zs.getD i 0))

theorem Rd.below {w w' : World} {a : Option Addr} {n : Nat} {zs : List Int} (h : Rd w a n zs) (hb : Below w.heap.size w w') : Rd w' a n zs := by
  refine ⟨h.1, fun i hi => ?_⟩
  obtain ⟨b, off, ha, hc⟩ := h.2 i hi
  refine ⟨b, off, ha, ?_⟩
  rw [hb.cell (p := ⟨b, off + i, none⟩) (World.block_lt_of_cell? w _ hc)]
  exact hc

theorem Rd.ofOwns {w : World} {base : Nat} {a : Option Addr} {n c : Nat} {zs : List Int} (h : w.ownsRow base 5 1 (.slice a n c) n (zs.map (Value.int .u8))) : Rd w a n zs := by
  have hl : zs.length = n := by have := h.1; simpa using this
  refine ⟨hl, fun i hi => ?_⟩
  rcases h.2 with ⟨h', h0⟩ | ⟨g, cap, cur, h', _⟩
  · omega
  · simp only [Value.slice.injEq, true_and] at h'
    obtain ⟨rfl, rfl⟩ := h'
    refine ⟨g, 0, rfl, ?_⟩
    have := h.cellAt i (by omega)
    simp only [Nat.zero_add]
    rw [this]
    simp [hl, hi]

/-- The head of a slice of at least one element. -/
theorem Rd.head {w : World} {a : Option Addr} {n : Nat} {zs : List Int} (h : Rd w a n zs) (hn : 0 < n) :
    ∃ b off, a = some ⟨b, off, none⟩ ∧ ∀ i, i < n → w.cell? ⟨b, off + i, none⟩ = some (.int .u8 (zs.getD i 0)) := by
  obtain ⟨b, off, ha, _⟩ := h.2 0 hn
  refine ⟨b, off, ha, fun i hi => ?_⟩
  obtain ⟨b', off', ha', hc'⟩ := h.2 i hi
  rw [ha] at ha'
  simp only [Option.some.injEq, Addr.mk.injEq, and_true] at ha'
  obtain ⟨rfl, rfl⟩ := ha'
  exact hc'

/-- The row that a copy has filled as far as 'k'. -/
def fil (zs : List Int) (n k : Nat) : List Int := zs.take k ++ List.replicate (n - k) 0
theorem fil_zero (zs : List Int) (n : Nat) : fil zs n 0 = List.replicate n 0 := by simp [fil]
theorem fil_all (zs : List Int) (n k : Nat) (h : zs.length = n) (hk : n ≤ k) : fil zs n k = zs := by
  have e : n - k = 0 := by omega
  unfold fil
  rw [e, List.take_of_length_le (by omega)]
  simp
theorem fil_length (zs : List Int) (n k : Nat) (h : zs.length = n) (hk : k ≤ n) : (fil zs n k).length = n := by
  simp [fil]; omega
theorem fil_set (zs : List Int) (n k : Nat) (h : zs.length = n) (hk : k < n) : (fil zs n k).set k (zs.getD k 0) = fil zs n (k + 1) := by
  apply List.ext_getElem?
  intro j
  unfold fil
  rw [List.getElem?_set]
  by_cases hj : k = j
  · subst hj
    simp only [if_true]
    have h1 : k < (zs.take k ++ List.replicate (n - k) (0 : Int)).length := by simp; omega
    rw [if_pos h1, List.getElem?_append_left (by simp; omega)]
    simp [List.getD_eq_getElem?_getD, List.getElem?_eq_getElem (show k < zs.length by omega)]
  · rw [if_neg hj]
    by_cases hlt : j < k
    · rw [List.getElem?_append_left (by simp; omega), List.getElem?_append_left (by simp; omega)]
      simp only [List.getElem?_take]
      rw [if_pos hlt, if_pos (by omega)]
    · rw [List.getElem?_append_right (by simp; omega), List.getElem?_append_right (by simp; omega)]
      simp only [List.length_take, List.getElem?_replicate]
      have e1 : min k zs.length = k := by omega
      have e2 : min (k + 1) zs.length = k + 1 := by omega
      rw [e1, e2]
      by_cases hjn : j < n
      · rw [if_pos (by omega), if_pos (by omega)]
      · rw [if_neg (by omega), if_neg (by omega)]

theorem fil_getD (zs : List Int) (n k j : Nat) (h : zs.length = n) (hk : k ≤ n) (hj : j < n) : ((fil zs n k).map (Value.int .u8))[j]? = some (.int .u8 ((fil zs n k).getD j 0)) := by
  have hl := fil_length zs n k h hk
  rw [List.getElem?_map, List.getD_eq_getElem?_getD, List.getElem?_eq_getElem (by omega)]
  simp

theorem Tryf.info5 : (Tryf.prog.info? 5).map (fun i => (i.zero, i.size, i.bytes)) = some (some (.int .u8 0), 1, 1) := by kernel_rfl

end Go.Proofs.Qxb6616877aFmt
