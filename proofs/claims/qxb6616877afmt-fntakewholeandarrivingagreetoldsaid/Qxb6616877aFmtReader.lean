/-
  (*bytes.Reader).Read (81): at its end; with octets left.
-/
import Derived.Test.Qxb6616877aFmtGrow
import Derived.Laws.CopyOwn
import Derived.Deep.RegionLaw
namespace Go.Proofs.Qxb6616877aFmt
open Go.RowKit Go.Extern.Stop Go.Stop Go.Extern

/-- Of what was there only the blocks of S may have turned. -/
structure Fr (S : Nat → Prop) (w w' : World) : Prop where
  os : w'.os = w.os
  tape : w'.tape = w.tape
  output : w'.output = w.output
  size : w.heap.size ≤ w'.heap.size
  block : ∀ k, k < w.heap.size → ¬ S k → w'.heap[k]? = w.heap[k]?

theorem Fr.refl (S : Nat → Prop) (w : World) : Fr S w w := ⟨rfl, rfl, rfl, Nat.le_refl _, fun _ _ _ => rfl⟩
theorem Fr.trans {S S' : Nat → Prop} {a b c : World} (h : Fr S a b) (k : Fr S' b c) (hs : ∀ i, i < a.heap.size → S' i → S i) : Fr S a c :=
  ⟨k.os.trans h.os, k.tape.trans h.tape, k.output.trans h.output, Nat.le_trans h.size k.size, fun i hi hn => (k.block i (Nat.lt_of_lt_of_le hi h.size) (fun x => hn (hs i hi x))).trans (h.block i hi hn)⟩
theorem Fr.ofBelow {S : Nat → Prop} {a b : World} (h : Below a.heap.size a b) : Fr S a b := ⟨h.os, h.tape, h.output, h.size, fun k hk _ => h.block k hk⟩
theorem Fr.ofGrown {S : Nat → Prop} {a b : World} {row : Option Nat} (h : a.grownBy b row) (hs : ∀ i, row = some i → S i) : Fr S a b :=
  ⟨h.os, h.tape, h.output, h.size, fun k hk hn => h.block k hk (fun e => hn (hs k e.symm))⟩
theorem Fr.setCell {S : Nat → Prop} (w : World) (g o : Nat) (v : Value) (hs : S g) : Fr S w (w.setCell ⟨g, o, none⟩ v) :=
  ⟨rfl, rfl, rfl, by simp [World.setCell], fun k hk hn => heap_setCell_other w ⟨g, o, none⟩ k v (fun e => hn (by rw [e]; exact hs))⟩

/-- A copy into a row as one step of a region that draws: only that row has turned. -/
theorem step_copy_row {P : Program} {ops : Array Oper} {o : Oper} {a : Act} {w : World} {K : Act → World → Prop} {Q : Exit → Act → World → Prop} {E : Prop} (hgd : o.guard = none) (d s : Operand) (dT sT : TypeId)
    (ho : o.op = .call { callee := .builtin .copy, args := #[d, s], argTypes := #[dT, sT] }) (elem : TypeId) (hu : P.underlying dT = some (.slice elem)) (hsz : (P.info? elem).map (·.size) = some 1)
    (dLen dCap sLen sCap : Nat) (ad : Addr) (g off : Nat) (hd : a.eval d = .slice (some ⟨g, off, none⟩) dLen dCap) (hs : a.eval s = .slice (some ad) sLen sCap)
    (cur : Array Value) (t : TypeId) (hg : w.heap[g]? = some (.cells cur t (0, 0))) (cs : List Value) (hn : cs.length = Nat.min sLen dLen)
    (hsrc : ∀ j v, cs[j]? = some v → w.cell? (ad.add j) = some v)
    (hfit : off + cs.length ≤ cur.size) (h1 : ∀ v ∈ cs, v.oneCell' = true)
    (h : ∀ w', w'.heap[g]? = some (.cells (cur.toList.take off ++ cs ++ cur.toList.drop (off + cs.length)).toArray t (0, 0)) → w.grownBy w' (some g) → K (a.put o.dst (goInt cs.length)) w') :
    if Region.wanted o (yielded ops a.tmps) = true then Oper.wp P o a w K Q else E := by
  have hw : Region.wanted o (yielded ops a.tmps) = true := by simp [Region.wanted, hgd]
  rw [if_pos hw]
  have hrun := run_copy_row (P := P) w dT sT o.type elem g off dLen dCap ad sLen sCap cur t cs hu hsz hg hn hsrc hfit h1
  unfold Oper.wp
  simp [execOp, ho, resolve, invoke, builtin, hd, hs, hrun, Result.andThen]
  refine h _ (by simpa using setRow_heap w g cur _ t _ hg) ⟨rfl, rfl, rfl, by simp, fun k _ hk => setRow_other w g k _ (fun e => hk (by simp [e]))⟩

theorem Rd.olds {w : World} {a : Option Addr} {n : Nat} {zs : List Int} (h : Rd w a n zs) :
    ∀ b, a = some b → ∀ j u, (zs.map (Value.int .u8))[j]? = some u → w.cell? (b.add j) = some u := by
  intro b hb j u hu
  have hj : j < n := by
    have := (List.getElem?_eq_some_iff.1 hu).1
    have h1 := h.1
    simp at this; omega
  obtain ⟨b', off, ha, hc⟩ := h.2 j hj
  rw [hb] at ha
  cases ha
  rw [Addr.add_lit, hc]
  rw [List.getElem?_map, List.getElem?_eq_getElem (by have := h.1; omega)] at hu
  simp only [Option.map_some, Option.some.injEq] at hu
  rw [← hu, List.getD_eq_getElem?_getD, List.getElem?_eq_getElem (by have := h.1; omega)]
  rfl

/-- The reader at block g: its octets, how far it has read. -/
def RSt (w : World) (g : Nat) (a : Option Addr) (len c : Nat) (i p : Int) : Prop :=
  w.heap[g]? = some (.cells #[.slice a len c, .int .i64 i, .int .i64 p] 51 (0, 0))

set_option maxHeartbeats 400000 in
theorem read_eof (g : Nat) (a : Option Addr) (len c : Nat) (i p : Int) (aE : Addr) (b : Option Addr) (m cb : Nat) (w : World) (hg : RSt w g a len c i p) (hi : (len : Int) ≤ i) (hE : w.cell? ⟨1, 0, none⟩ = some (.iface 53 (.pointer (some aE)))) :
    Calls Tryf.prog 81 #[.pointer (some ⟨g, 0, none⟩), .slice b m cb] w fun e w' => e = .returned (.tuple #[.int .i64 0, .iface 53 (.pointer (some aE))]) ∧ Below w.heap.size w w' := by
  have h0 : w.cell? ⟨g, 0, none⟩ = some (.slice a len c) := by rw [cell_of_row w g 0 _ 51 (0, 0) hg]; rfl
  have h1 : w.cell? ⟨g, 1, none⟩ = some (.int .i64 i) := by rw [cell_of_row w g 1 _ 51 (0, 0) hg]; rfl
  clear hg
  go_enter Tryf.func81, Tryf.ntmps81
  go_wp2
  go_quiet (fail)
  go_wp2
  go_quiet (fail)
  go_wp2
  go_ret2
  exact ⟨rfl, below_drewN (below_drewN (Below.refl _ _) _) _⟩

theorem Tryf.size5 : (Tryf.prog.info? 5).map (·.size) = some 1 := by kernel_rfl

set_option maxHeartbeats 1000000 in
theorem read_some (g : Nat) (bd od len c : Nat) (i : Nat) (p : Int) (zs : List Int) (gB ob m cb : Nat) (cur : Array Value) (w : World) (hg : RSt w g (some ⟨bd, od, none⟩) len c i p) (hil : i < len) (hlc : len ≤ c) (hlen : len ≤ 4194304) (hrd : Rd w (some ⟨bd, od, none⟩) len zs)
    (hgB : w.heap[gB]? = some (.cells cur 5 (0, 0))) (hfit : ob + m ≤ cur.size) (hm : m ≤ 4194304) (n1 : gB ≠ g) (n2 : bd ≠ gB) (n3 : bd ≠ g) (n : Nat) (HN : Hid (n = min (len - i) m)) :
    Calls Tryf.prog 81 #[.pointer (some ⟨g, 0, none⟩), .slice (some ⟨gB, ob, none⟩) m cb] w fun e w' => e = .returned (.tuple #[.int .i64 n, .nilIface]) ∧ RSt w' g (some ⟨bd, od, none⟩) len c ((i : Int) + n) (-1) ∧
      w'.heap[gB]? = some (.cells (cur.toList.take ob ++ ((zs.drop i).take n).map (Value.int .u8) ++ cur.toList.drop (ob + n)).toArray 5 (0, 0)) ∧ Fr (fun k => k = g ∨ k = gB) w w' := by
  have h0 : w.cell? ⟨g, 0, none⟩ = some (.slice (some ⟨bd, od, none⟩) len c) := by rw [cell_of_row w g 0 _ 51 (0, 0) hg]; rfl
  have h1 : w.cell? ⟨g, 1, none⟩ = some (.int .i64 i) := by rw [cell_of_row w g 1 _ 51 (0, 0) hg]; rfl
  have h2 : w.cell? ⟨g, 2, none⟩ = some (.int .i64 p) := by rw [cell_of_row w g 2 _ 51 (0, 0) hg]; rfl
  have f2 : w.frozen? ⟨g, 2, none⟩ = false := frozen_of_row w g 2 _ 51 hg
  have hnl : ¬ (len : Int) ≤ (i : Int) := by omega
  have hci : ¬ c = i := by omega
  have hile : i ≤ len := by omega
  have HG : Hid (RSt w g (some ⟨bd, od, none⟩) len c i p) := hg
  have HB : Hid (w.heap[gB]? = some (.cells cur 5 (0, 0))) := hgB
  have HR : Hid (Rd w (some ⟨bd, od, none⟩) len zs) := hrd
  clear hg hgB hrd
  go_enter Tryf.func81, Tryf.ntmps81
  go_wp2
  go_quiet (fail)
  go_wp2
  obtain ⟨W1, hW1⟩ : ∃ W1, (w.drewN nq).setCell ⟨g, 2, none⟩ (.int .i64 (-1)) = W1 := ⟨_, rfl⟩
  rw [hW1]
  have HFr1 : Hid (Fr (fun k => k = g ∨ k = gB) w W1) := by
    rw [← hW1]
    exact (Fr.ofBelow (below_drewN (Below.refl _ _) nq)).trans (Fr.setCell (S := fun k => k = g ∨ k = gB) _ g 2 _ (.inl rfl)) (fun _ _ h => h)
  have hg1 : RSt W1 g (some ⟨bd, od, none⟩) len c i (-1) := by
    unfold RSt
    rw [← hW1, heap_setCell_same (w.drewN nq) g 2 _ 51 _ HG.out]; rfl
  have hB1 : W1.heap[gB]? = some (.cells cur 5 (0, 0)) := by
    rw [← hW1, heap_setCell_other (w.drewN nq) ⟨g, 2, none⟩ gB _ n1]; exact HB.out
  have hbd1 : W1.heap[bd]? = w.heap[bd]? := by
    rw [← hW1, heap_setCell_other (w.drewN nq) ⟨g, 2, none⟩ bd _ n3]; rfl
  have hsrc : ∀ j v, (((zs.drop i).take n).map (Value.int .u8))[j]? = some v → W1.cell? ((⟨bd, od + i, none⟩ : Addr).add j) = some v := by
    intro j v hj
    have hr := HR.out.drop (k := i) (by omega)
    have hr' := hr.take (k := n) (by have := HN.out; omega)
    have := hr'.olds _ rfl j v hj
    rw [Addr.add_lit] at this ⊢
    rw [World.cell?_of_block (w := w) (a := ⟨bd, od + i + j, none⟩) hbd1]
    exact this
  clear h0 h1 h2 f2 hbd1 hW1 HG HB
  have k0 : W1.cell? ⟨g, 0, none⟩ = some (.slice (some ⟨bd, od, none⟩) len c) := by rw [cell_of_row W1 g 0 _ 51 (0, 0) hg1]; rfl
  have k1 : W1.cell? ⟨g, 1, none⟩ = some (.int .i64 i) := by rw [cell_of_row W1 g 1 _ 51 (0, 0) hg1]; rfl
  obtain ⟨cs, hcs⟩ : ∃ cs, cs = ((zs.drop i).take n).map (Value.int .u8) := ⟨_, rfl⟩
  rw [← hcs] at hsrc
  have hcl : cs.length = n := by rw [hcs]; have := HR.out.1; have := HN.out; simp; omega
  have HCL : Hid (cs.length = n) := hcl
  have HCS : Hid (cs = ((zs.drop i).take n).map (Value.int .u8)) := hcs
  have HSRC : Hid (∀ j v, cs[j]? = some v → W1.cell? ((⟨bd, od + i, none⟩ : Addr).add j) = some v) := hsrc
  have HG1 : Hid (RSt W1 g (some ⟨bd, od, none⟩) len c i (-1)) := hg1
  have HB1 : Hid (W1.heap[gB]? = some (.cells cur 5 (0, 0))) := hB1
  have H1 : Hid (∀ v ∈ cs, v.oneCell' = true) := by rw [hcs]; exact ints_oneCell _ _
  clear hsrc hcs hcl hg1 hB1
  go_region_law (refine step_copy_row rfl (.tmp 20) (.tmp 29) 30 30 rfl 5 Tryf.underlying30 Tryf.size5 m cb (len - i) (c - i) ⟨bd, od + i, none⟩ gB ob rfl rfl cur 5 ?_ cs ?_ ?_ ?_ ?_ ?_; (exact HB1.out); (rw [HCL.out]; exact HN.out); (exact HSRC.out); (have := HCL.out; have := HN.out; omega); (exact H1.out); intro w2 hB2 hgr2)
  all_goals
    rw [HCL.out] at hB2 ⊢
    have hnb : n ≤ 4194304 := by have := HN.out; omega
    have hgs : g < W1.heap.size := by
      have := World.block_lt_of_cell? W1 _ k0
      exact this
    have hg2 : RSt w2 g (some ⟨bd, od, none⟩) len c i (-1) := (hgr2.block g hgs (by simp; omega)).trans HG1.out
    have k1' : w2.cell? ⟨g, 1, none⟩ = some (.int .i64 i) := by rw [cell_of_row w2 g 1 _ 51 (0, 0) hg2]; rfl
    have q1 : w2.frozen? ⟨g, 1, none⟩ = false := frozen_of_row w2 g 1 _ 51 hg2
    have HB2 : Hid (w2.heap[gB]? = some (.cells (cur.toList.take ob ++ ((zs.drop i).take n).map (Value.int .u8) ++ cur.toList.drop (ob + n)).toArray 5 (0, 0))) := by rw [← HCS.out]; exact hB2
    have HG2 : Hid (RSt w2 g (some ⟨bd, od, none⟩) len c i (-1)) := hg2
    have HF2 : Hid (Fr (fun k => k = g ∨ k = gB) w w2) := by
      have hd : W1.grownBy w2 (some gB) := ⟨hgr2.os, hgr2.tape, hgr2.output, hgr2.size, hgr2.block⟩
      exact HFr1.out.trans (Fr.ofGrown (S := fun k => k = g ∨ k = gB) hd (fun i h => .inr (by simpa using h.symm))) (fun _ _ h => h)
    clear hB2 hgr2 hg2 k0 k1 HG1 HB1 HSRC HFr1
    go_wp2
    go_ret2
    refine ⟨rfl, ?_, ?_, ?_⟩
    · unfold RSt
      rw [heap_setCell_same w2 g 1 _ 51 _ HG2.out]; rfl
    · rw [heap_setCell_other w2 ⟨g, 1, none⟩ gB _ n1]; exact HB2.out
    · exact HF2.out.trans (Fr.setCell (S := fun k => k = g ∨ k = gB) _ g 1 _ (.inl rfl)) (fun _ _ h => h)

end Go.Proofs.Qxb6616877aFmt
