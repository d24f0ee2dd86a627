/-
  slices.Grow at a slice of length 0 (26).
-/
import Derived.Test.Qxb6616877aFmtWInv
import Derived.Lib.AppendZerosOnto
namespace Go.Proofs.Qxb6616877aFmt
open Go.RowKit Go.Extern.Stop Go.Stop Go.Extern

set_option maxHeartbeats 400000 in
theorem grow_room (a : Option Addr) (c n : Nat) (w : World) (hn : n ≤ c) (hc : c ≤ 9223372036854775807) :
    Calls Tryf.prog 26 #[.slice a 0 c, .int .i64 n] w fun e w' => e = .returned (.slice a 0 c) ∧ w' = w := by
  have h1 : ¬ ((n : Int) < 0) := by omega
  have h4 : ¬ ((0 : Int) < (n : Int) - (c : Int)) := by omega
  go_enter Tryf.func26, Tryf.ntmps26
  go_wp2
  go_ret
  exact ⟨rfl, rfl⟩

set_option maxHeartbeats 1000000 in
theorem grow_more (a : Option Addr) (c n : Nat) (cs : List Value) (w : World) (hcl : cs.length = c) (hnil : a = none → c = 0) (hcs : ∀ x, a = some x → ∀ j v, cs[j]? = some v → w.cell? (x.add j) = some v) (hn : c < n) (hb : n ≤ 4194304) :
    Calls Tryf.prog 26 #[.slice a 0 c, .int .i64 n] w fun e w' => ∃ G, e = .returned (.slice (some ⟨w.heap.size, 0, none⟩) 0 G) ∧ n ≤ G ∧ G ≤ 9223372036854775807 ∧ ∃ cur, w'.heap[w.heap.size]? = some (.cells cur 5 (0, 0)) ∧ cur.size = G ∧ Below w.heap.size w w' := by
  obtain ⟨i0, hi, hz0, hz1, hz2⟩ := info_parts Tryf.info5
  have h1 : ¬ ((n : Int) < 0) := by omega
  have h4 : (0 : Int) < (n : Int) - (c : Int) := by omega
  have hold : (Builtin.firstCells i0.size c (.slice a c c)).run Tryf.prog w.drew = .ok cs.toArray w.drew := by
    cases a with
    | none =>
      have h0 := hnil rfl
      subst h0
      have hc0 : cs = [] := List.length_eq_zero_iff.1 hcl
      rw [hc0]
      exact run_firstCells_none w.drew i0.size 0 0 0
    | some x => exact run_firstCells_some w.drew i0.size c x c c cs (by rw [hz1]; omega) (fun j v hj => hcs x rfl j v hj)
  have hrz : (Builtin.append_ #[30, 3] 30 #[.slice a c c, .int .i64 ((n : Int) - (c : Int))]).run Tryf.prog w =
      .ok (.slice (some ⟨w.heap.size, 0, none⟩) n (grownCap w n c 5)) (w.drew.alloc (.cells (cs.toArray ++ Builtin.zeroCells (Value.cells (.int .u8 0)) (n - c) ++ Builtin.zeroCells (Value.cells (.int .u8 0)) (grownCap w n c 5 - n)) 5)) := by
    have hck : c + (n - c) = n := by omega
    have h := Lib.run_append_grow_zeros w 30 3 30 5 i0 (.int .u8 0) .i64 .i64 Tryf.underlying30 Tryf.underlying3 hi hz0 a c c cs hold (n - c) (by omega) (by omega) (by omega) (by omega) (by rw [hz2]; omega)
      (by rw [hck, hz2]; exact growslice_fits hn (by omega))
    rw [hck] at h
    rw [show (n : Int) - (c : Int) = ((n - c : Nat) : Int) by omega]
    exact h
  have hGn : n ≤ grownCap w n c 5 := grownCap_ge w _ _ _
  have hG63 : grownCap w n c 5 ≤ 9223372036854775807 := by
    have := grownCap_le_maxLen w n c 5 (by unfold maxLen; omega)
    unfold maxLen at this
    omega
  obtain ⟨G, hG⟩ : ∃ G, G = grownCap w n c 5 := ⟨_, rfl⟩
  rw [← hG] at hrz hGn hG63
  obtain ⟨cur, hcur⟩ : ∃ cur, cur = cs.toArray ++ Builtin.zeroCells (Value.cells (.int .u8 0)) (n - c) ++ Builtin.zeroCells (Value.cells (.int .u8 0)) (G - n) := ⟨_, rfl⟩
  rw [← hcur] at hrz
  have HS : Hid (cur.size = G) := by
    show _ = _
    rw [hcur]
    simp [size_zeroCells, Value.cells, hcl]
    omega
  have HRZ : Hid ((Builtin.append_ #[30, 3] 30 #[.slice a c c, .int .i64 ((n : Int) - (c : Int))]).run Tryf.prog w = .ok (.slice (some ⟨w.heap.size, 0, none⟩) n G) (w.drew.alloc (.cells cur 5))) := hrz
  have HN : Hid (a = none → c = 0) := hnil
  clear hold hG hcs hcl hcur hrz hnil hi hz0 hz1 hz2
  have fin : ∀ cur : Array Value, (w.drew.alloc (.cells cur 5)).heap[w.heap.size]? = some (.cells cur 5 (0, 0)) := fun cur => heap_alloc_new w.drew _
  go_enter Tryf.func26, Tryf.ntmps26
  cases a with
  | none =>
    have h0 := HN.out rfl
    subst h0
    go_wp2_with (at_builtin; refine Lib.wpList_append_run _ rfl _ _ _ _ rfl _ _ rfl rfl _ _ HRZ.out ?_)
    all_goals
      go_ret
      exact ⟨G, rfl, hGn, hG63, cur, fin cur, HS.out, ((Below.refl _ _).drew).alloc (Nat.le_refl _) _⟩
  | some x =>
    obtain ⟨ab, ao, asp⟩ := x
    go_wp2_with (at_builtin; refine Lib.wpList_append_run _ rfl _ _ _ _ rfl _ _ rfl rfl _ _ HRZ.out ?_)
    all_goals
      go_ret
      exact ⟨G, rfl, hGn, hG63, cur, fin cur, HS.out, ((Below.refl _ _).drew).alloc (Nat.le_refl _) _⟩

end Go.Proofs.Qxb6616877aFmt
