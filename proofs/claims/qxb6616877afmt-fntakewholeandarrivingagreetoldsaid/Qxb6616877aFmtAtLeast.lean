/-
  io.ReadAtLeast (42), io.ReadFull (27) from a bytes.Reader.
-/
import Derived.Test.Qxb6616877aFmtReader
import Derived.Test.Qxb6616877aFmtIs
namespace Go.Proofs.Qxb6616877aFmt
open Go.RowKit Go.Extern.Stop Go.Stop Go.Extern
set_option linter.unusedVariables false

theorem nilAhead_read (a : Addr) (w : World) : (nilAhead 263 44 (.pointer (some a)) "Read").run Tryf.prog w = .ok (some false) w := by kernel_rfl
theorem method_read (a : Addr) (w : World) : (method 263 44 (.pointer (some a)) "Read").run Tryf.prog w = .ok (81, .pointer (some a)) w := by kernel_rfl

theorem below_undrew {w w1 : World} (h : Below w.drew.heap.size w.drew w1) : Below w.heap.size w w1 := ⟨h.os, h.tape, h.output, h.size, h.block⟩
theorem fr_undrew {S : Nat → Prop} {w w1 : World} (h : Fr S w.drew w1) : Fr S w w1 := ⟨h.os, h.tape, h.output, h.size, h.block⟩

theorem below_block {w w1 : World} {g : Nat} {o : Obj} (hb : Below w.heap.size w w1) (h : w.heap[g]? = some o) : w1.heap[g]? = some o := by
  have hlt : g < w.heap.size := by
    rcases Nat.lt_or_ge g w.heap.size with h' | h'
    · exact h'
    · rw [Array.getElem?_eq_none h'] at h; cases h
  exact (hb.block g hlt).trans h

set_option maxHeartbeats 400000 in
theorem least_zero (g : Nat) (b : Option Addr) (cb : Nat) (w : World) :
    Calls Tryf.prog 42 #[.iface 44 (.pointer (some ⟨g, 0, none⟩)), .slice b 0 cb, .int .i64 0] w fun e w' => e = .returned (.tuple #[.int .i64 0, .nilIface]) ∧ w' = w := by
  go_enter Tryf.func42, Tryf.ntmps42
  go_wp2
  refine wp_loop_rounds 1 ?_
  rw [rounds_succ]
  go_wp2
  go_ret2
  exact ⟨rfl, rfl⟩

set_option maxHeartbeats 400000 in
theorem least_eof (g : Nat) (a : Option Addr) (len c : Nat) (i p : Int) (aE : Addr) (gB : Nat) (k cb : Nat) (w : World) (hg : RSt w g a len c i p) (hi : (len : Int) ≤ i) (hE : w.cell? ⟨1, 0, none⟩ = some (.iface 53 (.pointer (some aE)))) (hk : 0 < k) (hkb : k ≤ 4194304) (hcb : k ≤ cb) :
    Calls Tryf.prog 42 #[.iface 44 (.pointer (some ⟨g, 0, none⟩)), .slice (some ⟨gB, 0, none⟩) k cb, .int .i64 k] w fun e w' => e = .returned (.tuple #[.int .i64 0, .iface 53 (.pointer (some aE))]) ∧ Below w.heap.size w w' := by
  have nA := nilAhead_read ⟨g, 0, none⟩
  have mR := method_read ⟨g, 0, none⟩
  have hk' : (0 : Int) < (k : Int) := by omega
  go_enter Tryf.func42, Tryf.ntmps42
  go_wp2
  refine wp_loop_rounds 2 ?_
  rw [rounds_succ]
  go_wp2
  go_region_with (go_at_call 81; refine (read_eof g a len c i p aE _ _ _ _ ?_ hi ?_).mono ?_; (exact hg); (exact hE); rintro e w1 ⟨rfl, hb1⟩)
  all_goals
    go_wp2
    rw [rounds_succ]
    go_wp2
    go_ret2
    exact ⟨rfl, below_undrew hb1⟩

set_option maxHeartbeats 1000000 in
theorem least_full (g : Nat) (bd od len c : Nat) (i : Nat) (p : Int) (zs : List Int) (gB k cb : Nat) (cur : Array Value) (w : World) (hg : RSt w g (some ⟨bd, od, none⟩) len c i p) (hlc : len ≤ c) (hlen : len ≤ 4194304) (hrd : Rd w (some ⟨bd, od, none⟩) len zs)
    (hgB : w.heap[gB]? = some (.cells cur 5 (0, 0))) (hcb : cur.size = cb) (hkc : k ≤ cb) (hk : 0 < k) (hkl : k ≤ len - i) (n1 : gB ≠ g) (n2 : bd ≠ gB) (n3 : bd ≠ g) :
    Calls Tryf.prog 42 #[.iface 44 (.pointer (some ⟨g, 0, none⟩)), .slice (some ⟨gB, 0, none⟩) k cb, .int .i64 k] w fun e w' => e = .returned (.tuple #[.int .i64 k, .nilIface]) ∧ RSt w' g (some ⟨bd, od, none⟩) len c ((i : Int) + k) (-1) ∧
      w'.heap[gB]? = some (.cells (cur.toList.take 0 ++ ((zs.drop i).take k).map (Value.int .u8) ++ cur.toList.drop (0 + k)).toArray 5 (0, 0)) ∧ Fr (fun k => k = g ∨ k = gB) w w' := by
  have nA := nilAhead_read ⟨g, 0, none⟩
  have mR := method_read ⟨g, 0, none⟩
  have hk' : (0 : Int) < (k : Int) := by omega
  have H := fun (W : World) (h1 : RSt W g (some ⟨bd, od, none⟩) len c i p) (h2 : Rd W (some ⟨bd, od, none⟩) len zs) (h3 : W.heap[gB]? = some (.cells cur 5 (0, 0))) =>
    read_some g bd od len c i p zs gB 0 k cb cur W h1 (by omega) hlc hlen h2 h3 (by omega) (by omega) n1 n2 n3 k (show k = min (len - i) k by omega)
  have HH := show Hid (∀ (W : World) (h1 : RSt W g (some ⟨bd, od, none⟩) len c i p) (h2 : Rd W (some ⟨bd, od, none⟩) len zs) (h3 : W.heap[gB]? = some (.cells cur 5 (0, 0))), _) from H
  clear H
  go_enter Tryf.func42, Tryf.ntmps42
  go_wp2
  refine wp_loop_rounds 2 ?_
  rw [rounds_succ]
  go_wp2
  go_region_with (go_at_call 81; refine (HH.out _ ?_ ?_ ?_).mono ?_; (exact hg); (exact hrd); (exact hgB); rintro e w1 ⟨rfl, r1, r2, r3⟩)
  all_goals
    have R1 := show Hid _ from r1
    have R2 := show Hid _ from r2
    have R3 : Hid (Fr (fun k => k = g ∨ k = gB) w w1) := fr_undrew r3
    clear r1 r2 r3 HH nA mR hg hrd hgB
    go_wp2
    rw [rounds_succ]
    go_wp2
    go_ret2
    exact ⟨rfl, R1.out, R2.out, R3.out⟩

set_option maxRecDepth 100000 in
set_option maxHeartbeats 2000000 in
theorem least_part (g : Nat) (bd od len c : Nat) (i : Nat) (p : Int) (aE aU : Addr) (zs : List Int) (gB k cb : Nat) (cur : Array Value) (w : World) (hg : RSt w g (some ⟨bd, od, none⟩) len c i p) (hlc : len ≤ c) (hlen : len ≤ 4194304) (hrd : Rd w (some ⟨bd, od, none⟩) len zs)
    (hgB : w.heap[gB]? = some (.cells cur 5 (0, 0))) (hcb : cur.size = cb) (hkc : k ≤ cb) (hkb : k ≤ 4194304) (hil : i < len) (hkl : len - i < k) (n1 : gB ≠ g) (n2 : bd ≠ gB) (n3 : bd ≠ g)
    (hE : w.cell? ⟨1, 0, none⟩ = some (.iface 53 (.pointer (some aE)))) (hU : w.cell? ⟨2, 0, none⟩ = some (.iface 53 (.pointer (some aU)))) (m1 : 2 < g) (m2 : 2 < gB) :
    Calls Tryf.prog 42 #[.iface 44 (.pointer (some ⟨g, 0, none⟩)), .slice (some ⟨gB, 0, none⟩) k cb, .int .i64 k] w fun e w' => ∃ v, e = .returned (.tuple #[v, .iface 53 (.pointer (some aU))]) ∧ RSt w' g (some ⟨bd, od, none⟩) len c len (-1) ∧
      (∃ cur' : Array Value, cur'.size = cb ∧ w'.heap[gB]? = some (.cells cur' 5 (0, 0))) ∧ Fr (fun k => k = g ∨ k = gB) w w' := by
  have nA := nilAhead_read ⟨g, 0, none⟩
  have mR := method_read ⟨g, 0, none⟩
  have hk' : (0 : Int) < (k : Int) := by omega
  obtain ⟨R, hR⟩ : ∃ R, R = len - i := ⟨_, rfl⟩
  have hR0 : 0 < R := by omega
  have hRk : R < k := by omega
  have hRi : i + R = len := by omega
  have H := fun (W : World) (h1 : RSt W g (some ⟨bd, od, none⟩) len c i p) (h2 : Rd W (some ⟨bd, od, none⟩) len zs) (h3 : W.heap[gB]? = some (.cells cur 5 (0, 0))) =>
    read_some g bd od len c i p zs gB 0 k cb cur W h1 hil hlc hlen h2 h3 (by omega) (by omega) n1 n2 n3 R (show R = min (len - i) k by omega)
  have HH := show Hid (∀ (W : World) (h1 : RSt W g (some ⟨bd, od, none⟩) len c i p) (h2 : Rd W (some ⟨bd, od, none⟩) len zs) (h3 : W.heap[gB]? = some (.cells cur 5 (0, 0))), _) from H
  have HRI : Hid (i + R = len) := hRi
  have hcR : ¬ cb = R := by omega
  have hRkN : R ≤ k := by omega
  clear H hR hRi
  go_enter Tryf.func42, Tryf.ntmps42
  go_wp2
  refine wp_loop_rounds 3 ?_
  rw [rounds_succ]
  go_wp2
  go_region_with (go_at_call 81; refine (HH.out _ ?_ ?_ ?_).mono ?_; (exact hg); (exact hrd); (exact hgB); rintro e w1 ⟨rfl, r1, r2, r3⟩)
  have R1 : Hid (RSt w1 g (some ⟨bd, od, none⟩) len c len (-1)) := by
    have e : (i : Int) + (R : Int) = (len : Int) := by have := HRI.out; omega
    rw [e] at r1; exact r1
  have R2 : Hid (∃ cur' : Array Value, cur'.size = cb ∧ w1.heap[gB]? = some (.cells cur' 5 (0, 0))) := ⟨_, by have := HRI.out; have := hrd.1; simp; omega, r2⟩
  have R3 : Hid (Fr (fun k => k = g ∨ k = gB) w w1) := fr_undrew r3
  have hE1 : w1.cell? ⟨1, 0, none⟩ = some (.iface 53 (.pointer (some aE))) := by
    rw [World.cell?_of_block (w := w) (R3.out.block 1 (World.block_lt_of_cell? w _ hE) (by omega))]; exact hE
  have hU1 : w1.cell? ⟨2, 0, none⟩ = some (.iface 53 (.pointer (some aU))) := by
    rw [World.cell?_of_block (w := w) (R3.out.block 2 (World.block_lt_of_cell? w _ hU) (by omega))]; exact hU
  clear r1 r2 r3 HH hg hrd hgB hE hU
  go_wp2
  rw [rounds_succ]
  go_wp2
  go_region_with (go_at_call 81; refine (read_eof g (some ⟨bd, od, none⟩) len c len (-1) aE _ _ _ _ ?_ (Int.le_refl _) ?_).mono ?_; (exact R1.out); (exact hE1); rintro e w2 ⟨rfl, hb2⟩)
  all_goals
    have hb2' : Below w1.heap.size w1 w2 := below_undrew hb2
    have hE2 : w2.cell? ⟨1, 0, none⟩ = some (.iface 53 (.pointer (some aE))) := cell_later hb2' hE1
    have hU2 : w2.cell? ⟨2, 0, none⟩ = some (.iface 53 (.pointer (some aU))) := cell_later hb2' hU1
    have T1 : Hid (RSt w2 g (some ⟨bd, od, none⟩) len c len (-1)) := below_block hb2' R1.out
    have T2 : Hid (∃ cur' : Array Value, cur'.size = cb ∧ w2.heap[gB]? = some (.cells cur' 5 (0, 0))) := by
      obtain ⟨cur', hs, hc⟩ := R2.out
      exact ⟨cur', hs, below_block hb2' hc⟩
    have T3 : Hid (Fr (fun k => k = g ∨ k = gB) w w2) := R3.out.trans (Fr.ofBelow (S := fun k => k = g ∨ k = gB) hb2') (fun _ _ h => h)
    obtain ⟨ti, hi, hcmp⟩ := Option.map_eq_some_iff.1 isComp
    obtain ⟨tj, hj, hjs⟩ := Option.map_eq_some_iff.1 isSize
    have heq := run_eql_iface_ptr_same (P := Tryf.prog) w2 aE Tryf.underlying26 Tryf.underlying53 hi hcmp hj
    clear hb2 hb2' hE1 hU1 R1 R2 R3 nA mR hi hcmp hj hjs
    go_wp2
    rw [rounds_succ]
    go_wp2
    go_ret2
    exact ⟨_, rfl, T1.out, T2.out, T3.out⟩
end Go.Proofs.Qxb6616877aFmt
