/-
  take on a decoder of an encoding read as it arrives, in one word; ZZb1Take (11), ZZb1Err (12), the two makers (9, 10).
-/
import Derived.Test.Qxb6616877aFmtDread
namespace Go.Proofs.Qxb6616877aFmt
open Go.RowKit Go.Extern.Stop Go.Stop Go.Extern
set_option linter.unusedVariables false

def AInv (w : World) (g gR lo B : Nat) (s : ByteArray) (r : Option (List Int)) : Prop :=
  ∃ vb e, ASt w g gR s vb e ∧ gR < g ∧ lo ≤ gR ∧ g < B ∧ ((∃ rem a n c, r = some rem ∧ e = .nilIface ∧ vb = .slice a n c ∧ RInv w gR lo rem ∧ Buf w lo B g a c) ∨ (r = none ∧ ∃ T v, e = .iface T v))

set_option maxHeartbeats 400000 in
theorem take_src (g gR : Nat) (s : ByteArray) (vb e0 : Value) (k : Int) (w : World) (hst : ASt w g gR s vb e0) (R : Value → World → Prop)
    (h : Calls Tryf.prog 21 #[.pointer (some ⟨g, 0, none⟩), .int .i64 k] w fun e w' => ∃ v, e = .returned v ∧ R v w') :
    Calls Tryf.prog 16 #[.pointer (some ⟨g, 0, none⟩), .int .i64 k] w fun e w' => ∃ v, e = .returned v ∧ R v w' := by
  have h2 : w.cell? ⟨g, 2, none⟩ = some (.iface 44 (.pointer (some ⟨gR, 0, none⟩))) := by rw [cell_of_row w g 2 _ 43 (0, 0) hst]; rfl
  have H : Hid (Calls Tryf.prog 21 #[.pointer (some ⟨g, 0, none⟩), .int .i64 k] w fun e w' => ∃ v, e = .returned v ∧ R v w') := h
  clear h hst
  go_enter Tryf.func16, Tryf.ntmps16
  go_wp2_with fail
  refine H.out.mono ?_
  rintro e w1 ⟨v, rfl, hr⟩
  have HR : Hid (R v w1) := hr
  clear hr H
  go_wp2
  go_ret
  exact ⟨v, rfl, HR.out⟩

set_option maxHeartbeats 400000 in
theorem zz_take (p : Value) (k : Int) (w : World) (R : Value → World → Prop)
    (h : Calls Tryf.prog 16 #[p, .int .i64 k] w fun e w' => ∃ v, e = .returned v ∧ R v w') :
    Calls Tryf.prog 11 #[p, .int .i64 k] w fun e w' => ∃ v, e = .returned v ∧ R v w' := by
  have H : Hid (Calls Tryf.prog 16 #[p, .int .i64 k] w fun e w' => ∃ v, e = .returned v ∧ R v w') := h
  clear h
  go_enter Tryf.func11, Tryf.ntmps11
  go_wp2_with fail
  refine H.out.mono ?_
  rintro e w1 ⟨v, rfl, hr⟩
  have HR : Hid (R v w1) := hr
  clear hr H
  go_wp2
  go_ret
  exact ⟨v, rfl, HR.out⟩

/-- What a take hands back and leaves. -/
def APost (w : World) (g gR lo B : Nat) (s : ByteArray) (r : Option (List Int)) (k : Nat) (v : Value) (w' : World) : Prop :=
  ∃ a1 c1, v = .slice a1 k c1 ∧ Rd w' a1 k (outT r k) ∧ AInv w' g gR lo w'.heap.size s (nextT r k) ∧ Fr (fun j => lo ≤ j ∧ j < B) w w'
def WPost (w : World) (g : Nat) (s : ByteArray) (r : Option (List Int)) (k : Nat) (v : Value) (w' : World) : Prop :=
  ∃ a1 c1, v = .slice a1 k c1 ∧ Rd w' a1 k (outT r k) ∧ (∀ b off, a1 = some ⟨b, off, none⟩ → b < g ∨ w.heap.size ≤ b) ∧ WInv w' g s (nextT r k) ∧ w.grownBy w' (some g)

theorem arr_take (F : Interp) (g gR lo B : Nat) (s : ByteArray) (r : Option (List Int)) (k : Nat) (aE aU : Addr) (cE cU : Array Value) (tE tU : TypeId) (w : World) (hF : F.answers w.tape)
    (hA : AInv w g gR lo B s r) (hS : Sent w lo aE aU cE cU tE tU) (hB : B ≤ w.heap.size) (hk : k ≤ 4194304) :
    Calls Tryf.prog 11 #[.pointer (some ⟨g, 0, none⟩), .int .i64 k] w fun e w' => ∃ v, e = .returned v ∧ APost w g gR lo B s r k v w' := by
  obtain ⟨vb, e, hst, h1, h2, h3, hr⟩ := hA
  refine zz_take _ _ w _ (take_src g gR s vb e k w hst _ ?_)
  rcases hr with ⟨rem, a, n, c, rfl, rfl, rfl, hri, hbuf⟩ | ⟨rfl, T, v, rfl⟩
  · refine (dread_go F g gR lo B s a n c k rem aE aU cE cU tE tU w hF hst hri hbuf hS h1 h2 h3 hB hk).mono fun e w' hp => ?_
    obtain ⟨a1, c1, he, hrd, hfr, hc⟩ := hp
    refine ⟨_, he, a1, c1, rfl, hrd, ?_, hfr⟩
    have hs := hfr.size
    rcases hc with ⟨hkr, a', c', q1, q2, q3⟩ | ⟨hlt, vb, v, q1⟩
    · have en : nextT (some rem) k = some (rem.drop k) := by simp [nextT, hkr]
      rw [en]
      exact ⟨_, _, q1, h1, h2, by omega, .inl ⟨_, a', k, c', rfl, rfl, rfl, q2, q3⟩⟩
    · have en : nextT (some rem) k = none := by simp [nextT]; omega
      rw [en]
      exact ⟨_, _, q1, h1, h2, by omega, .inr ⟨rfl, 53, v, rfl⟩⟩
  · refine (dread_failed g gR s vb k T v w hst hk).mono fun e w' ⟨a1, he, hrd, hgr⟩ => ?_
    have hs := hgr.size
    exact ⟨_, he, a1, k, rfl, hrd, ⟨vb, _, (hgr.block g (by omega) (by simp)).trans hst, h1, h2, by omega, .inr ⟨rfl, T, v, rfl⟩⟩, Fr.ofGrown hgr (fun i h => by cases h)⟩

theorem who_take (F : Interp) (g : Nat) (s : ByteArray) (r : Option (List Int)) (k : Nat) (w : World) (hF : F.answers w.tape) (hw : WInv w g s r) (hk : k ≤ 4194304) :
    Calls Tryf.prog 11 #[.pointer (some ⟨g, 0, none⟩), .int .i64 k] w fun e w' => ∃ v, e = .returned v ∧ WPost w g s r k v w' := by
  refine zz_take _ _ w _ ?_
  refine (whole_take F g s r k w hF hw hk).mono fun e w' ⟨a1, c1, he, h1, h2, h3, h4⟩ => ?_
  exact ⟨_, he, a1, c1, rfl, h1, h2, h3, h4⟩

/-- Has it failed? -/
def errV (r : Option (List Int)) (v : Value) : Prop := (r.isSome = true ∧ v = .nilIface) ∨ (r = none ∧ ∃ T u, v = .iface T u)

set_option maxHeartbeats 400000 in
theorem zz_err (g : Nat) (v : Value) (w : World) (h : w.cell? ⟨g, 4, none⟩ = some v) (hv : v = .nilIface ∨ ∃ T u, v = .iface T u) :
    Calls Tryf.prog 12 #[.pointer (some ⟨g, 0, none⟩)] w fun e w' => e = .returned v ∧ w' = w := by
  rcases hv with rfl | ⟨T, u, rfl⟩
  · go_enter Tryf.func12, Tryf.ntmps12
    go_wp2
    go_ret
    exact ⟨rfl, rfl⟩
  · go_enter Tryf.func12, Tryf.ntmps12
    go_wp2
    go_ret
    exact ⟨rfl, rfl⟩

theorem who_err (g : Nat) (s : ByteArray) (r : Option (List Int)) (w : World) (hw : WInv w g s r) :
    Calls Tryf.prog 12 #[.pointer (some ⟨g, 0, none⟩)] w fun e w' => ∃ v, errV r v ∧ e = .returned v ∧ w' = w := by
  obtain ⟨a, n, c, e, hst, _, _, hr⟩ := hw
  have h4 : w.cell? ⟨g, 4, none⟩ = some e := by rw [cell_of_row w g 4 _ 43 (0, 0) hst]; rfl
  rcases hr with ⟨zs, rfl, rfl, _⟩ | ⟨rfl, T, v, rfl⟩
  · exact (zz_err g _ w h4 (.inl rfl)).mono fun e w' ⟨he, hw⟩ => ⟨_, .inl ⟨rfl, rfl⟩, he, hw⟩
  · exact (zz_err g _ w h4 (.inr ⟨T, v, rfl⟩)).mono fun e w' ⟨he, hw⟩ => ⟨_, .inr ⟨rfl, T, v, rfl⟩, he, hw⟩

theorem arr_err (g gR lo B : Nat) (s : ByteArray) (r : Option (List Int)) (w : World) (hw : AInv w g gR lo B s r) :
    Calls Tryf.prog 12 #[.pointer (some ⟨g, 0, none⟩)] w fun e w' => ∃ v, errV r v ∧ e = .returned v ∧ w' = w := by
  obtain ⟨vb, e, hst, _, _, _, hr⟩ := hw
  have h4 : w.cell? ⟨g, 4, none⟩ = some e := by rw [cell_of_row w g 4 _ 43 (0, 0) hst]; rfl
  rcases hr with ⟨zs, _, _, _, rfl, rfl, _⟩ | ⟨rfl, T, v, rfl⟩
  · exact (zz_err g _ w h4 (.inl rfl)).mono fun e w' ⟨he, hw⟩ => ⟨_, .inl ⟨rfl, rfl⟩, he, hw⟩
  · exact (zz_err g _ w h4 (.inr ⟨T, v, rfl⟩)).mono fun e w' ⟨he, hw⟩ => ⟨_, .inr ⟨rfl, T, v, rfl⟩, he, hw⟩

set_option maxHeartbeats 400000 in
theorem new_whole (s : ByteArray) (a : Option Addr) (n c : Nat) (w : World) :
    Calls Tryf.prog 9 #[.string s, .slice a n c] w fun e w' => e = .returned (.pointer (some ⟨w.heap.size, 0, none⟩)) ∧ w' = w.alloc (.cells #[.string s, .slice a n c, .nilIface, .slice none 0 0, .nilIface] 43) := by
  go_enter Tryf.func9, Tryf.ntmps9
  go_wp2
  go_ret
  exact ⟨rfl, rfl⟩

set_option maxHeartbeats 400000 in
theorem new_arr (s : ByteArray) (a : Option Addr) (n c : Nat) (w : World) :
    Calls Tryf.prog 10 #[.string s, .slice a n c] w fun e w' => e = .returned (.pointer (some ⟨w.heap.size + 1, 0, none⟩)) ∧
      w' = (w.alloc (.cells #[.slice a n c, .int .i64 0, .int .i64 (-1)] 51)).alloc (.cells #[.string s, .slice none 0 0, .iface 44 (.pointer (some ⟨w.heap.size, 0, none⟩)), .slice none 0 0, .nilIface] 43) := by
  go_enter Tryf.func10, Tryf.ntmps10
  go_wp2
  go_ret
  exact ⟨rfl, rfl⟩

theorem AInv.fr {w w' : World} {g gR lo B B' : Nat} {s : ByteArray} {r : Option (List Int)} {S : Nat → Prop} (h : AInv w g gR lo B s r) (k : Fr S w w') (hs : ∀ j, S j → j < lo) (hB : B ≤ w.heap.size) (hB' : B ≤ B') : AInv w' g gR lo B' s r := by
  obtain ⟨vb, e, hst, h1, h2, h3, hr⟩ := h
  refine ⟨vb, e, (k.block g (by omega) (fun x => by have := hs g x; omega)).trans hst, h1, h2, by omega, ?_⟩
  rcases hr with ⟨rem, a, n, c, q1, q2, q3, q4, q5⟩ | q
  · exact .inl ⟨rem, a, n, c, q1, q2, q3, q4.fr k (fun j x => .inl (hs j x)) h2, q5.fr k (fun j x => by have := hs j x; omega) hB hB'⟩
  · exact .inr q

theorem WInv.fr {w w' : World} {g : Nat} {s : ByteArray} {r : Option (List Int)} {S : Nat → Prop} (h : WInv w g s r) (k : Fr S w w') (hs : ∀ j, S j → g < j) : WInv w' g s r := by
  obtain ⟨a, n, c, e, hst, hsh, hn, hr⟩ := h
  have hgs : g < w.heap.size := by
    rcases Nat.lt_or_ge g w.heap.size with h | h
    · exact h
    · unfold WSt at hst; rw [Array.getElem?_eq_none h] at hst; cases hst
  refine ⟨a, n, c, e, (k.block g hgs (fun x => by have := hs g x; omega)).trans hst, hsh, hn, ?_⟩
  rcases hr with ⟨zs, q1, q2, q3, q4⟩ | q
  · refine .inl ⟨zs, q1, q2, ⟨q3.1, fun j hj => ?_⟩, q4⟩
    obtain ⟨b, off, h1, h2⟩ := q3.2 j hj
    refine ⟨b, off, h1, ?_⟩
    rw [World.cell?_of_block (w := w) (a := ⟨b, off + j, none⟩) (k.block b (World.block_lt_of_cell? w _ h2) (fun x => by have := hs b x; have := q4 b off h1; omega))]
    exact h2
  · exact .inr q

theorem Rd.fr {w w' : World} {a : Option Addr} {n : Nat} {zs : List Int} {S : Nat → Prop} (h : Rd w a n zs) (k : Fr S w w') (hs : ∀ b off, a = some ⟨b, off, none⟩ → ¬ S b) : Rd w' a n zs := by
  refine ⟨h.1, fun i hi => ?_⟩
  obtain ⟨b, off, ha, hc⟩ := h.2 i hi
  refine ⟨b, off, ha, ?_⟩
  rw [World.cell?_of_block (w := w) (a := ⟨b, off + i, none⟩) (k.block b (World.block_lt_of_cell? w _ hc) (hs b off ha))]
  exact hc

theorem Sent.ofBelow {w w' : World} {lo lo' : Nat} {aE aU : Addr} {cE cU : Array Value} {tE tU : TypeId} (h : Sent w lo aE aU cE cU tE tU) (hb : Below lo w w') (hl : lo ≤ lo') (hs : lo' ≤ w'.heap.size) : Sent w' lo' aE aU cE cU tE tU := by
  refine ⟨?_, ?_, (hb.block _ h.bE).trans h.rE, (hb.block _ h.bU).trans h.rU, by have := h.bE; omega, by have := h.bU; omega, by have := h.two; omega, hs⟩
  · rw [hb.cell (p := ⟨1, 0, none⟩) (by have := h.two; show 1 < lo; omega)]; exact h.hE
  · rw [hb.cell (p := ⟨2, 0, none⟩) (by have := h.two; show 2 < lo; omega)]; exact h.hU

end Go.Proofs.Qxb6616877aFmt
