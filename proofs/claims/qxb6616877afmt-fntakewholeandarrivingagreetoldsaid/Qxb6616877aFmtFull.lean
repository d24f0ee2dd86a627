/-
  io.ReadFull (27) from a bytes.Reader, all cases in one contract; slices.Grow (26) at the decoder's buffer, both cases in one.
-/
import Derived.Test.Qxb6616877aFmtAtLeast
namespace Go.Proofs.Qxb6616877aFmt
open Go.RowKit Go.Extern.Stop Go.Stop Go.Extern
set_option linter.unusedVariables false

set_option maxHeartbeats 400000 in
theorem full_of (g : Nat) (b : Option Addr) (k cb : Nat) (w : World) (R : Value → Value → World → Prop)
    (h : Calls Tryf.prog 42 #[.iface 44 (.pointer (some ⟨g, 0, none⟩)), .slice b k cb, .int .i64 k] w fun e w' => ∃ v0 v1, e = .returned (.tuple #[v0, v1]) ∧ R v0 v1 w') :
    Calls Tryf.prog 27 #[.iface 44 (.pointer (some ⟨g, 0, none⟩)), .slice b k cb] w fun e w' => ∃ v0 v1, e = .returned (.tuple #[v0, v1]) ∧ R v0 v1 w' := by
  have H : Hid (Calls Tryf.prog 42 #[.iface 44 (.pointer (some ⟨g, 0, none⟩)), .slice b k cb, .int .i64 k] w fun e w' => ∃ v0 v1, e = .returned (.tuple #[v0, v1]) ∧ R v0 v1 w') := h
  clear h
  go_enter Tryf.func27, Tryf.ntmps27
  go_wp2_with fail
  refine H.out.mono ?_
  rintro e w1 ⟨v0, v1, rfl, hr⟩
  have HR : Hid (R v0 v1 w1) := hr
  clear hr H
  go_wp2
  go_ret2
  exact ⟨v0, v1, rfl, HR.out⟩

/-- The octets that the reader at block g holds, and how far it has read: 'rem' is left. -/
def RInv (w : World) (g lo : Nat) (rem : List Int) : Prop :=
  ∃ (a : Option Addr) (len c i : Nat) (p : Int) (zs : List Int), RSt w g a len c (i : Int) p ∧ Sh a len c ∧ len ≤ 4194304 ∧ i ≤ len ∧ Rd w a len zs ∧ rem = zs.drop i ∧ (∀ b off, a = some ⟨b, off, none⟩ → lo ≤ b ∧ b < g)

/-- The decoder's buffer: no array yet, or one of its own. -/
def Buf (w : World) (lo B gA : Nat) (a : Option Addr) (c : Nat) : Prop :=
  c ≤ 9223372036854775807 ∧ ((a = none ∧ c = 0) ∨ ∃ gB cur, a = some ⟨gB, 0, none⟩ ∧ w.heap[gB]? = some (.cells cur 5 (0, 0)) ∧ cur.size = c ∧ gA < gB ∧ lo ≤ gB ∧ gB < B)

theorem grow_any (lo B gA : Nat) (a : Option Addr) (c k : Nat) (w : World) (hb : Buf w lo B gA a c) (hB : B ≤ w.heap.size) (hA : gA < w.heap.size) (hlo : lo ≤ w.heap.size) (hk : k ≤ 4194304) :
    Calls Tryf.prog 26 #[.slice a 0 c, .int .i64 k] w fun e w' => ∃ a' c', e = .returned (.slice a' 0 c') ∧ k ≤ c' ∧ Buf w' lo w'.heap.size gA a' c' ∧ (∀ gB off, a' = some ⟨gB, off, none⟩ → gB < B ∨ w.heap.size ≤ gB) ∧ Below w.heap.size w w' := by
  by_cases hkc : k ≤ c
  · refine (grow_room a c k w hkc hb.1).mono fun e w' ⟨he, hw⟩ => ?_
    subst hw
    refine ⟨a, c, he, hkc, ⟨hb.1, ?_⟩, ?_, Below.refl _ _⟩
    · rcases hb.2 with h | ⟨gB, cur, h1, h2, h3, h4, h5, h6⟩
      · exact .inl h
      · exact .inr ⟨gB, cur, h1, h2, h3, h4, h5, by omega⟩
    · intro gB off ha
      rcases hb.2 with ⟨h, _⟩ | ⟨gB', cur, h1, h2, h3, h4, h5, h6⟩
      · rw [h] at ha; cases ha
      · rw [h1] at ha; simp at ha; omega
  · have hcs : ∃ cs : List Value, cs.length = c ∧ ∀ x, a = some x → ∀ j v, cs[j]? = some v → w.cell? (x.add j) = some v := by
      rcases hb.2 with ⟨h, h0⟩ | ⟨gB, cur, h1, h2, h3, _⟩
      · exact ⟨[], by simp [h0], fun x hx => by rw [h] at hx; cases hx⟩
      · refine ⟨cur.toList, by simpa using h3, fun x hx j v hj => ?_⟩
        rw [h1] at hx
        simp only [Option.some.injEq] at hx
        subst hx
        rw [Addr.add_lit, Nat.zero_add, cell_of_row w gB j cur 5 (0, 0) h2]
        simpa using hj
    obtain ⟨cs, hcl, hcs⟩ := hcs
    refine (grow_more a c k cs w hcl (fun h => ?_) hcs (by omega) hk).mono fun e w' ⟨G, he, h1, h2, cur, h3, h4, h5⟩ => ?_
    · rcases hb.2 with ⟨_, h0⟩ | ⟨gB, cur, h1, _⟩
      · exact h0
      · rw [h] at h1; cases h1
    · have hlt : w.heap.size < w'.heap.size := by
        rcases Nat.lt_or_ge w.heap.size w'.heap.size with h | h
        · exact h
        · rw [Array.getElem?_eq_none h] at h3; cases h3
      exact ⟨_, G, he, h1, ⟨h2, .inr ⟨w.heap.size, cur, rfl, h3, h4, hA, hlo, hlt⟩⟩, fun gB off ha => .inr (by simp at ha; omega), h5⟩

/-- What ReadFull leaves. -/
def FullPost (w w' : World) (g gA lo : Nat) (rem : List Int) (aE aU : Addr) (a : Option Addr) (k c : Nat) (ev : Value) : Prop :=
  Buf w' lo w'.heap.size gA a c ∧ Fr (fun j => j = g ∨ ∃ off, a = some ⟨j, off, none⟩) w w' ∧
  ((k ≤ rem.length ∧ ev = .nilIface ∧ RInv w' g lo (rem.drop k) ∧ Rd w' a k (rem.take k)) ∨ (rem.length < k ∧ (ev = .iface 53 (.pointer (some aE)) ∨ ev = .iface 53 (.pointer (some aU)))))

theorem full_any (g gA lo : Nat) (rem : List Int) (aE aU : Addr) (a : Option Addr) (k c : Nat) (w : World) (hr : RInv w g lo rem) (hgA : g < gA) (hlo : 2 < lo) (hlg : lo ≤ g)
    (hE : w.cell? ⟨1, 0, none⟩ = some (.iface 53 (.pointer (some aE)))) (hU : w.cell? ⟨2, 0, none⟩ = some (.iface 53 (.pointer (some aU)))) (hb : Buf w lo w.heap.size gA a c) (hk : k ≤ 4194304) (hkc : k ≤ c) :
    Calls Tryf.prog 27 #[.iface 44 (.pointer (some ⟨g, 0, none⟩)), .slice a k c] w fun e w' => ∃ v0 v1, e = .returned (.tuple #[v0, v1]) ∧ FullPost w w' g gA lo rem aE aU a k c v1 := by
  refine full_of g a k c w _ ?_
  obtain ⟨ar, len, cr, i, p, zs, hst, hsh, hlen, hil, hrd, hrem, hbl⟩ := hr
  have hzl := hrd.1
  have hrl : rem.length = len - i := by rw [hrem]; simp; omega
  by_cases hk0 : k = 0
  · subst hk0
    refine (least_zero g a c w).mono fun e w' ⟨he, hw⟩ => ?_
    subst hw
    refine ⟨_, _, he, hb, Fr.refl _ _, .inl ⟨by omega, rfl, ?_, ?_⟩⟩
    · exact ⟨ar, len, cr, i, p, zs, hst, hsh, hlen, hil, hrd, by simpa using hrem, hbl⟩
    · exact Rd.zero _ _
  · obtain ⟨gB, cur, ha, hgB, hcs, hAB, hloB, hBs⟩ : ∃ gB cur, a = some ⟨gB, 0, none⟩ ∧ w.heap[gB]? = some (.cells cur 5 (0, 0)) ∧ cur.size = c ∧ gA < gB ∧ lo ≤ gB ∧ gB < w.heap.size := by
      rcases hb.2 with ⟨_, h0⟩ | h
      · omega
      · exact h
    subst ha
    by_cases hend : len ≤ i
    · refine (least_eof g ar len cr i p aE gB k c w hst (by omega) hE (by omega) hk hkc).mono fun e w' ⟨he, hw⟩ => ?_
      refine ⟨_, _, he, ⟨hb.1, .inr ⟨gB, cur, rfl, below_block hw hgB, hcs, hAB, hloB, by have := hw.size; omega⟩⟩, Fr.ofBelow hw, .inr ⟨by omega, .inl rfl⟩⟩
    · obtain ⟨bd, od, rfl⟩ : ∃ b off, ar = some ⟨b, off, none⟩ := by
        obtain ⟨b, off, h, _⟩ := hrd.2 0 (by omega)
        exact ⟨b, off, h⟩
      obtain ⟨hb1, hb2⟩ := hbl bd od rfl
      by_cases hfull : k ≤ len - i
      · refine (least_full g bd od len cr i p zs gB k c cur w hst hsh.1 hlen hrd hgB hcs hkc (by omega) hfull (by omega) (by omega) (by omega)).mono fun e w' ⟨he, r1, r2, r3⟩ => ?_
        have hdl : ((zs.drop i).take k).length = k := by simp; omega
        refine ⟨_, _, he, ⟨hb.1, .inr ⟨gB, _, rfl, r2, ?_, hAB, hloB, by have := r3.size; omega⟩⟩, ?_, .inl ⟨by omega, rfl, ?_, ?_⟩⟩
        · simp; omega
        · exact (Fr.refl _ w).trans r3 (fun j _ hj => hj.elim .inl (fun h => .inr ⟨0, by rw [h]⟩))
        · refine ⟨_, len, cr, i + k, -1, zs, by simpa using r1, hsh, hlen, by omega, ?_, by rw [hrem]; simp, hbl⟩
          refine ⟨hzl, fun j hj => ?_⟩
          obtain ⟨b', off', h1, h2⟩ := hrd.2 j hj
          refine ⟨b', off', h1, ?_⟩
          simp only [Option.some.injEq, Addr.mk.injEq, and_true] at h1
          obtain ⟨rfl, rfl⟩ := h1
          rw [World.cell?_of_block (w := w) (a := ⟨bd, od + j, none⟩) (r3.block bd (World.block_lt_of_cell? w _ h2) (by omega))]
          exact h2
        · refine ⟨by rw [hrem]; exact hdl, fun j hj => ⟨gB, 0, rfl, ?_⟩⟩
          rw [cell_of_row w' gB _ _ 5 (0, 0) r2, hrem]
          have hj2 : j < ((zs.drop i).take k).length := by omega
          simp only [List.take_zero, List.nil_append, Nat.zero_add, List.getElem?_toArray]
          rw [List.getElem?_append_left (by simpa using hj2), List.getElem?_map, List.getElem?_eq_getElem hj2, List.getD_eq_getElem?_getD, List.getElem?_eq_getElem hj2]
          rfl
      · refine (least_part g bd od len cr i p aE aU zs gB k c cur w hst hsh.1 hlen hrd hgB hcs hkc hk (by omega) (by omega) (by omega) (by omega) (by omega) hE hU (by omega) (by omega)).mono fun e w' ⟨v, he, r1, ⟨cur', hc1, hc2⟩, r3⟩ => ?_
        refine ⟨_, _, he, ⟨hb.1, .inr ⟨gB, cur', rfl, hc2, hc1, hAB, hloB, by have := r3.size; omega⟩⟩, ?_, .inr ⟨by omega, .inr rfl⟩⟩
        exact (Fr.refl _ w).trans r3 (fun j _ hj => hj.elim .inl (fun h => .inr ⟨0, by rw [h]⟩))

end Go.Proofs.Qxb6616877aFmt
