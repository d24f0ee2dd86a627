/-
  isMemberText (7), the bounds' test (6), ZZObjectAt (10).
-/
import Derived.Test.Qxb6616431aEnd
import Derived.Lib.SlBytesConst
namespace Go.Proofs.Qxb6616431a
open Go.RowKit

theorem bytes6_yes (a : Option Addr) (n c : Nat) (a' : Option Addr) (m c' : Nat) (w : World) (h : n + m ≤ 1048576) :
    Calls Try.prog 6 #[.slice a n c, .slice a' m c'] w fun e w' => e = .returned (.bool true) ∧ w' = w := by
  have h1 : ¬ (1048576 : Int) < (n : Int) := by omega
  have h2 : ¬ (1048576 : Int) < (m : Int) := by omega
  have h3 : ¬ (1048576 : Int) < (n : Int) + (m : Int) := by omega
  go_enter Try.func6, Try.ntmps6
  go_wp2
  go_ret
  exact ⟨rfl, rfl⟩

theorem bytes6_no (a : Option Addr) (n c : Nat) (a' : Option Addr) (m c' : Nat) (w : World) (h : ¬ n + m ≤ 1048576) :
    Calls Try.prog 6 #[.slice a n c, .slice a' m c'] w fun e w' => e = .returned (.bool false) ∧ w' = w := by
  by_cases h1 : (1048576 : Int) < (n : Int)
  · go_enter Try.func6, Try.ntmps6
    go_wp2
    go_ret
    exact ⟨rfl, rfl⟩
  · by_cases h2 : (1048576 : Int) < (m : Int)
    · go_enter Try.func6, Try.ntmps6
      go_wp2
      go_ret
      exact ⟨rfl, rfl⟩
    · have h3 : (1048576 : Int) < (n : Int) + (m : Int) := by omega
      go_enter Try.func6, Try.ntmps6
      go_wp2
      go_ret
      exact ⟨rfl, rfl⟩

/-- Does the text open with '{' and hold more? -/
def memB (n : Nat) (zs : List Int) : Bool := decide (2 ≤ n) && (zs.getD 0 0 == 123)

theorem member_any (a : Option Addr) (n c : Nat) (zs : List Int) (w : World) (hr : Rd w a n zs) :
    Calls Try.prog 7 #[.slice a n c] w fun e w' => e = .returned (.bool (memB n zs)) ∧ w' = w := by
  by_cases h2 : 2 ≤ n
  · obtain ⟨b, off, rfl, hc⟩ := hr.2 0 (by omega)
    have e : memB n zs = (zs.getD 0 0 == 123) := by simp [memB, h2]
    rw [e]
    obtain ⟨y, hy⟩ : ∃ y, zs.getD 0 0 = y := ⟨_, rfl⟩
    rw [hy] at hc ⊢
    clear hy e hr
    have h2' : (2 : Int) ≤ (n : Int) := by omega
    have h0' : (0 : Int) < (n : Int) := by omega
    simp only [Nat.add_zero] at hc
    go_enter Try.func7, Try.ntmps7
    go_wp2
    go_ret
    exact ⟨rfl, rfl⟩
  · have e : memB n zs = false := by simp [memB, h2]
    rw [e]
    have h2' : ¬ (2 : Int) ≤ (n : Int) := by omega
    clear e hr
    go_enter Try.func7, Try.ntmps7
    go_wp2
    go_ret
    exact ⟨rfl, rfl⟩

theorem object_at (a : Option Addr) (n c : Nat) (st : Int) (w : World) :
    Calls Try.prog 10 #[.slice a n c, .int .i64 st] w fun e w' => ∃ g, e = .returned (.pointer (some ⟨g, 0, none⟩)) ∧ w'.cell? ⟨g, 0, none⟩ = some (.slice a n c) ∧ w'.cell? ⟨g, 1, none⟩ = some (.int .i64 st) ∧ w'.cell? ⟨g, 2, none⟩ = some .nilIface ∧ Below w.heap.size w w' := by
  go_enter Try.func10, Try.ntmps10
  go_wp2
  go_ret
  exact ⟨w.heap.size, rfl, by simp, by simp, by simp, (Below.refl _ _).alloc (Nat.le_refl _) _⟩

theorem cell_on {w w' : World} {p : Addr} {v : Value} (h : w.cell? p = some v) (hb : Below w.heap.size w w') : w'.cell? p = some v := by
  rw [hb.cell (World.block_lt_of_cell? w _ h)]; exact h

theorem Below.on {B : Nat} {a b c : World} (h : Below B a b) (k : Below b.heap.size b c) (hB : B ≤ a.heap.size) : Below B a c :=
  h.trans (k.mono (Nat.le_trans hB h.size))

end Go.Proofs.Qxb6616431a
