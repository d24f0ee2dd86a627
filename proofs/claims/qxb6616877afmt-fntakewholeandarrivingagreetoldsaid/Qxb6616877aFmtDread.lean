/-
  (*decoder).read (21): the decoder of an encoding read as it arrives.
-/
import Derived.Test.Qxb6616877aFmtFull
namespace Go.Proofs.Qxb6616877aFmt
open Go.RowKit Go.Extern.Stop Go.Stop Go.Extern
set_option linter.unusedVariables false

/-- The two sentinels that the road compares, in memory below 'lo'. -/
structure Sent (w : World) (lo : Nat) (aE aU : Addr) (cE cU : Array Value) (tE tU : TypeId) : Prop where
  hE : w.cell? ⟨1, 0, none⟩ = some (.iface 53 (.pointer (some aE)))
  hU : w.cell? ⟨2, 0, none⟩ = some (.iface 53 (.pointer (some aU)))
  rE : w.heap[aE.block]? = some (.cells cE tE (0, 0))
  rU : w.heap[aU.block]? = some (.cells cU tU (0, 0))
  bE : aE.block < lo
  bU : aU.block < lo
  two : 2 < lo
  size : lo ≤ w.heap.size

theorem Sent.fr {w w' : World} {lo : Nat} {aE aU : Addr} {cE cU : Array Value} {tE tU : TypeId} {S : Nat → Prop} (h : Sent w lo aE aU cE cU tE tU) (k : Fr S w w') (hs : ∀ j, S j → lo ≤ j) : Sent w' lo aE aU cE cU tE tU := by
  have hb : ∀ j, j < lo → w'.heap[j]? = w.heap[j]? := fun j hj => k.block j (Nat.lt_of_lt_of_le hj h.size) (fun x => by have := hs j x; omega)
  refine ⟨?_, ?_, (hb _ h.bE).trans h.rE, (hb _ h.bU).trans h.rU, h.bE, h.bU, h.two, Nat.le_trans h.size k.size⟩
  · rw [World.cell?_of_block (w := w) (hb 1 (by have := h.two; omega))]; exact h.hE
  · rw [World.cell?_of_block (w := w) (hb 2 (by have := h.two; omega))]; exact h.hU

def ASt (w : World) (g gR : Nat) (s : ByteArray) (vb e : Value) : Prop :=
  w.heap[g]? = some (.cells #[.string s, .slice none 0 0, .iface 44 (.pointer (some ⟨gR, 0, none⟩)), vb, e] 43 (0, 0))

set_option maxHeartbeats 400000 in
theorem dread_failed (g gR : Nat) (s : ByteArray) (vb : Value) (k : Nat) (T : TypeId) (v : Value) (w : World) (hg : ASt w g gR s vb (.iface T v)) (hk : k ≤ 4194304) :
    Calls Tryf.prog 21 #[.pointer (some ⟨g, 0, none⟩), .int .i64 k] w fun e w' => ∃ a1, e = .returned (.slice a1 k k) ∧ Rd w' a1 k (List.replicate k 0) ∧ w.grownBy w' none := by
  have h4 : w.cell? ⟨g, 4, none⟩ = some (.iface T v) := by rw [cell_of_row w g 4 _ 43 (0, 0) hg]; rfl
  obtain ⟨i0, hi, hz0, hz1, hz2⟩ := info_parts Tryf.info5
  clear hg
  go_enter Tryf.func21, Tryf.ntmps21
  go_wp2_with (first | (at_make; refine wpList_make_full _ rfl (.tmp 57) (.tmp 57) 30 rfl w.heap.size 5 i0 (.int .u8 0) 1 Tryf.underlying30 hi hz0 hz1 .i64 .i64 _ _ k rfl rfl rfl rfl (by rw [hz2]; omega) (by unfold maxLen; omega) (Nat.le_refl _) ?_; intro w1 hown hgrow) | fail)
  rw [made_zero] at hown
  have HR : Hid (Rd w1 (some ⟨w.heap.size, 0, none⟩) k (List.replicate k 0)) := Rd.ofOwns hown
  have HG : Hid (w.grownBy w1 none) := hgrow
  clear hown hgrow hi hz0 hz1 hz2
  go_wp2
  go_ret
  exact ⟨_, rfl, HR.out, HG.out⟩

theorem RInv.fr {w w' : World} {g lo : Nat} {rem : List Int} {S : Nat → Prop} (h : RInv w g lo rem) (k : Fr S w w') (hs : ∀ j, S j → j < lo ∨ g < j) (hl : lo ≤ g) : RInv w' g lo rem := by
  obtain ⟨a, len, c, i, p, zs, hst, hsh, hlen, hil, hrd, hrem, hbl⟩ := h
  have hgs : g < w.heap.size := by
    rcases Nat.lt_or_ge g w.heap.size with h | h
    · exact h
    · unfold RSt at hst; rw [Array.getElem?_eq_none h] at hst; cases hst
  refine ⟨a, len, c, i, p, zs, (k.block g hgs (fun x => by have := hs g x; omega)).trans hst, hsh, hlen, hil, ⟨hrd.1, fun j hj => ?_⟩, hrem, hbl⟩
  obtain ⟨b, off, h1, h2⟩ := hrd.2 j hj
  have hb := hbl b off h1
  refine ⟨b, off, h1, ?_⟩
  rw [World.cell?_of_block (w := w) (a := ⟨b, off + j, none⟩) (k.block b (World.block_lt_of_cell? w _ h2) (fun x => by have := hs b x; omega))]
  exact h2

theorem Buf.fr {w w' : World} {lo B B' g : Nat} {a : Option Addr} {c : Nat} {S : Nat → Prop} (h : Buf w lo B g a c) (k : Fr S w w') (hs : ∀ j, S j → j ≤ g) (hB : B ≤ w.heap.size) (hB' : B ≤ B') : Buf w' lo B' g a c := by
  refine ⟨h.1, ?_⟩
  rcases h.2 with h | ⟨gB, cur, h1, h2, h3, h4, h5, h6⟩
  · exact .inl h
  · exact .inr ⟨gB, cur, h1, (k.block gB (by omega) (fun x => by have := hs gB x; omega)).trans h2, h3, h4, h5, by omega⟩

theorem set3 {w : World} {g gR : Nat} {s : ByteArray} {vb e : Value} (hg : ASt w g gR s vb e) (vb' : Value) :
    ASt (w.setCell ⟨g, 3, none⟩ vb') g gR s vb' e := by
  unfold ASt
  rw [heap_setCell_same w g 3 _ 43 _ hg]; rfl

/-- What one read leaves. -/
def DPost (w : World) (g gR lo B : Nat) (s : ByteArray) (rem : List Int) (k : Nat) (e : Ending) (w' : World) : Prop :=
  ∃ a1 c1, e = .returned (.slice a1 k c1) ∧ Rd w' a1 k (outT (some rem) k) ∧ Fr (fun j => lo ≤ j ∧ j < B) w w' ∧
    ((k ≤ rem.length ∧ ∃ a' c', ASt w' g gR s (.slice a' k c') .nilIface ∧ RInv w' gR lo (rem.drop k) ∧ Buf w' lo w'.heap.size g a' c') ∨ (rem.length < k ∧ ∃ vb v, ASt w' g gR s vb (.iface 53 v)))

theorem after_full {w W2 w3 : World} {g gR lo B : Nat} {s : ByteArray} {rem : List Int} {k c' : Nat} {a' : Option Addr} {aE aU : Addr} {cE cU : Array Value} {tE tU : TypeId} {v1 : Value}
    (hfr2 : Fr (fun j => lo ≤ j ∧ j < B) w W2) (hbuf2 : Buf W2 lo W2.heap.size g a' c') (hfre : ∀ gB off, a' = some ⟨gB, off, none⟩ → gB < B ∨ w.heap.size ≤ gB) (hst2 : ASt W2 g gR s (.slice a' k c') .nilIface)
    (hs2 : Sent W2 lo aE aU cE cU tE tU) (hRg : gR < g) (hloR : lo ≤ gR) (hgB : g < B) (hgs : g < W2.heap.size) (hpost : FullPost W2.drew w3 gR g lo rem aE aU a' k c' v1) :
    Fr (fun j => lo ≤ j ∧ j < B) w w3 ∧ ASt w3 g gR s (.slice a' k c') .nilIface ∧ Sent w3 lo aE aU cE cU tE tU ∧ Buf w3 lo w3.heap.size g a' c' := by
  obtain ⟨hbuf3, hfr3, _⟩ := hpost
  have hS : ∀ j, (j = gR ∨ ∃ off, a' = some ⟨j, off, none⟩) → j ≠ g ∧ lo ≤ j ∧ (j < B ∨ w.heap.size ≤ j) := by
    rintro j (rfl | ⟨off, ha⟩)
    · omega
    · have h1 := hfre j off ha
      rcases hbuf2.2 with ⟨h, _⟩ | ⟨gB, cur, h, _, _, h4, h5, _⟩
      · rw [h] at ha; cases ha
      · rw [h] at ha; simp at ha; omega
  have hfr3' := fr_undrew hfr3
  refine ⟨hfr2.trans hfr3' (fun j hj h => ?_), (hfr3'.block g hgs (fun h => (hS g h).1 rfl)).trans hst2, hs2.fr hfr3' (fun j h => (hS j h).2.1), hbuf3⟩
  have := hS j h
  omega

theorem dpost_fail {w w5 w6 : World} {g gR lo B : Nat} {s : ByteArray} {rem : List Int} {k : Nat} {vb v : Value} {a1 : Option Addr} {c1 : Nat} (hlt : rem.length < k) (hr : Rd w6 a1 k (List.replicate k 0)) (h5 : ASt w5 g gR s vb (.iface 53 v)) (h6 : w5.grownBy w6 none) (hfr : Fr (fun j => lo ≤ j ∧ j < B) w w5) (hg : g < w5.heap.size) :
    DPost w g gR lo B s rem k (.returned (.slice a1 k c1)) w6 := by
  have eo : outT (some rem) k = List.replicate k 0 := by simp [outT]; omega
  exact ⟨a1, c1, rfl, by rw [eo]; exact hr, hfr.trans (Fr.ofGrown (S := fun _ => False) h6 (fun i h => by cases h)) (fun _ _ h => h.elim), .inr ⟨hlt, vb, v, (h6.block g hg (by simp)).trans h5⟩⟩

set_option maxRecDepth 100000 in
set_option maxHeartbeats 4000000 in
theorem dread_go (F : Interp) (g gR lo B : Nat) (s : ByteArray) (a : Option Addr) (n c k : Nat) (rem : List Int) (aE aU : Addr) (cE cU : Array Value) (tE tU : TypeId) (w : World) (hF : F.answers w.tape)
    (hst : ASt w g gR s (.slice a n c) .nilIface) (hr : RInv w gR lo rem) (hb : Buf w lo B g a c) (hS : Sent w lo aE aU cE cU tE tU) (hRg : gR < g) (hloR : lo ≤ gR) (hgB : g < B) (hB : B ≤ w.heap.size) (hk : k ≤ 4194304) :
    Calls Tryf.prog 21 #[.pointer (some ⟨g, 0, none⟩), .int .i64 k] w fun e w' => DPost w g gR lo B s rem k e w' := by
  have h3 : w.cell? ⟨g, 3, none⟩ = some (.slice a n c) := by rw [cell_of_row w g 3 _ 43 (0, 0) hst]; rfl
  have h4 : w.cell? ⟨g, 4, none⟩ = some .nilIface := by rw [cell_of_row w g 4 _ 43 (0, 0) hst]; rfl
  have hgs : g < w.heap.size := by have := World.block_lt_of_cell? w _ h3; exact this
  have hc63 := hb.1
  have HB : Hid (Buf w lo B g a c) := hb
  have HST : Hid (ASt w g gR s (.slice a n c) .nilIface) := hst
  have HRI : Hid (RInv w gR lo rem) := hr
  have HS : Hid (Sent w lo aE aU cE cU tE tU) := hS
  clear hb hst hr hS
  go_enter Tryf.func21, Tryf.ntmps21
  go_wp2_with fail
  refine (grow_any lo B g a c k w HB.out hB hgs (by have := HS.out.size; omega) hk).mono ?_
  rintro e w1 ⟨a', c', rfl, hkc, hbuf, hfresh, hb1⟩
  have hc63' := hbuf.1
  have hst1 : ASt w1 g gR s (.slice a n c) .nilIface := below_block hb1 HST.out
  have k3 : w1.cell? ⟨g, 3, none⟩ = some (.slice a n c) := by rw [cell_of_row w1 g 3 _ 43 (0, 0) hst1]; rfl
  have q3 : w1.frozen? ⟨g, 3, none⟩ = false := frozen_of_row w1 g 3 _ 43 hst1
  have HST1 : Hid (ASt w1 g gR s (.slice a n c) .nilIface) := hst1
  have HBUF : Hid (Buf w1 lo w1.heap.size g a' c') := hbuf
  have HFRE : Hid (∀ gB off, a' = some ⟨gB, off, none⟩ → gB < B ∨ w.heap.size ≤ gB) := hfresh
  have HB1 : Hid (Below w.heap.size w w1) := hb1
  have hkcI : (k : Int) ≤ (c' : Int) := by omega
  clear hbuf hfresh hb1 hst1
  go_wp2
  obtain ⟨W2, hW2⟩ : ∃ W2, w1.setCell ⟨g, 3, none⟩ (.slice a' k c') = W2 := ⟨_, rfl⟩
  rw [hW2]
  have hst2 : ASt W2 g gR s (.slice a' k c') .nilIface := by rw [← hW2]; exact set3 HST1.out _
  have hfr12 : Fr (fun j => j = g) w1 W2 := by rw [← hW2]; exact Fr.setCell _ g 3 _ rfl
  have HFR2 : Hid (Fr (fun j => lo ≤ j ∧ j < B) w W2) := (Fr.ofBelow HB1.out).trans hfr12 (fun j _ h => by omega)
  have HBUF2 : Hid (Buf W2 lo W2.heap.size g a' c') := HBUF.out.fr hfr12 (fun j h => by omega) (Nat.le_refl _) hfr12.size
  have HRI2 : Hid (RInv W2 gR lo rem) := (HRI.out.fr (S := fun _ => False) (Fr.ofBelow HB1.out) (fun _ h => h.elim) hloR).fr hfr12 (fun j h => by omega) hloR
  have HS2 : Hid (Sent W2 lo aE aU cE cU tE tU) := (HS.out.fr (S := fun _ => False) (Fr.ofBelow HB1.out) (fun _ h => h.elim)).fr hfr12 (fun j h => by omega)
  have hF2 : F.answers W2.tape := by have := HFR2.out.tape; rw [this]; exact hF
  have j2 : W2.cell? ⟨g, 2, none⟩ = some (.iface 44 (.pointer (some ⟨gR, 0, none⟩))) := by rw [cell_of_row W2 g 2 _ 43 (0, 0) hst2]; rfl
  have j3 : W2.cell? ⟨g, 3, none⟩ = some (.slice a' k c') := by rw [cell_of_row W2 g 3 _ 43 (0, 0) hst2]; rfl
  have HST2 : Hid (ASt W2 g gR s (.slice a' k c') .nilIface) := hst2
  have hsz2 : w.heap.size ≤ W2.heap.size := HFR2.out.size
  clear hW2 hst2 hfr12 h3 h4 k3 q3 HST1 HBUF HB1 HRI HS HST HB hkcI
  go_region_with (go_at_call 27; refine (full_any gR g lo rem aE aU a' k c' _ ?_ hRg ?_ hloR ?_ ?_ ?_ hk hkc).mono ?_; (exact HRI2.out.fr (S := fun _ => False) (Fr.ofBelow ((Below.refl _ _).drew)) (fun _ h => h.elim) hloR); (exact HS2.out.two); (exact HS2.out.hE); (exact HS2.out.hU); (exact HBUF2.out); rintro e w3 ⟨v0, v1, rfl, hpost⟩)
  all_goals
    have hcase := hpost.2.2
    obtain ⟨hfr3, hst3, hs3, hbuf3⟩ := after_full HFR2.out HBUF2.out HFRE.out HST2.out HS2.out hRg hloR hgB (by omega) hpost
    have e1 := hs3.hE
    have e2 := hs3.hU
    have j3' : w3.cell? ⟨g, 3, none⟩ = some (.slice a' k c') := by rw [cell_of_row w3 g 3 _ 43 (0, 0) hst3]; rfl
    have j4' : w3.cell? ⟨g, 4, none⟩ = some .nilIface := by rw [cell_of_row w3 g 4 _ 43 (0, 0) hst3]; rfl
    have HFR3 := show Hid _ from hfr3
    have HST3 := show Hid _ from hst3
    have HS3 := show Hid _ from hs3
    have HBUF3 := show Hid _ from hbuf3
    clear hpost hfr3 hst3 hs3 hbuf3 HFR2 HBUF2 HST2 HS2 HRI2 j2 j3 HFRE
    rcases hcase with ⟨hkr, hv, hri, hrd⟩ | ⟨hlt, hv⟩
    · subst hv
      have HRI3 := show Hid _ from hri
      have HRD3 := show Hid _ from hrd
      clear hri hrd
      go_wp2_with fail
      refine (is_nil aE _).mono ?_
      rintro e w4 ⟨rfl, rfl⟩
      go_wp2_with fail
      refine (is_nil aU _).mono ?_
      rintro e w5 ⟨rfl, rfl⟩
      go_wp2
      go_ret
      have eo : outT (some rem) k = rem.take k := by simp [outT, hkr]
      exact ⟨a', c', rfl, by rw [eo]; exact HRD3.out, HFR3.out, .inl ⟨hkr, a', c', HST3.out, HRI3.out, HBUF3.out⟩⟩
    · have hF3 : F.answers w3.tape := by rw [HFR3.out.tape]; exact hF
      have HFAIL : Hid (Calls Tryf.prog 22 #[.pointer (some ⟨g, 0, none⟩), .string ⟨#[99, 117, 116, 32, 115, 104, 111, 114, 116]⟩, .slice none 0 0] w3 fun e w' => e = .returned (.tuple #[]) ∧ ∃ v, w'.heap[g]? = some (.cells #[.string s, .slice none 0 0, .iface 44 (.pointer (some ⟨gR, 0, none⟩)), .slice a' k c', .iface 53 v] 43 (0, 0)) ∧ w3.grownBy w' (some g)) := fail_any F g s _ _ _ w3 hF3 HST3.out
      clear hF3
      rcases hv with hv | hv
      · subst hv
        go_wp2_with fail
        refine (is_same aE _).mono ?_
        rintro e w4 ⟨rfl, rfl⟩
        go_wp2_with fail
        refine HFAIL.out.mono ?_
        rintro e w5 ⟨rfl, v, hg5, hgr5⟩
        have k4 : w5.cell? ⟨g, 4, none⟩ = some (.iface 53 v) := by rw [cell_of_row w5 g 4 _ 43 (0, 0) hg5]; rfl
        have HG5 : Hid (ASt w5 g gR s (.slice a' k c') (.iface 53 v)) := hg5
        have HFR5 : Hid (Fr (fun j => lo ≤ j ∧ j < B) w w5) := HFR3.out.trans (Fr.ofGrown (S := fun j => j = g) hgr5 (fun i h => by simpa using h.symm)) (fun j _ h => by omega)
        have hg5s : g < w5.heap.size := by have := World.block_lt_of_cell? w5 _ k4; exact this
        clear hg5 hgr5 HFAIL e1 e2 j3' j4' HST3 HFR3
        obtain ⟨i0, hi, hz0, hz1, hz2⟩ := info_parts Tryf.info5
        go_wp2_with (first | (at_make; refine wpList_make_full _ rfl (.tmp 57) (.tmp 57) 30 rfl w5.heap.size 5 i0 (.int .u8 0) 1 Tryf.underlying30 hi hz0 hz1 .i64 .i64 _ _ k rfl rfl rfl rfl (by rw [hz2]; omega) (by unfold maxLen; omega) (Nat.le_refl _) ?_; intro w6 hown hgrow) | fail)
        rw [made_zero] at hown
        have HR : Hid (Rd w6 (some ⟨w5.heap.size, 0, none⟩) k (List.replicate k 0)) := Rd.ofOwns hown
        have HG6 : Hid (w5.grownBy w6 none) := hgrow
        clear hown hgrow hi hz0 hz1 hz2
        go_wp2
        go_ret
        exact dpost_fail hlt HR.out HG5.out HG6.out HFR5.out hg5s
      · subst hv
        by_cases hEU : aU = aE
        · subst hEU
          go_wp2_with fail
          refine (is_same aU _).mono ?_
          rintro e w4 ⟨rfl, rfl⟩
          go_wp2_with fail
          refine HFAIL.out.mono ?_
          rintro e w5 ⟨rfl, v, hg5, hgr5⟩
          have k4 : w5.cell? ⟨g, 4, none⟩ = some (.iface 53 v) := by rw [cell_of_row w5 g 4 _ 43 (0, 0) hg5]; rfl
          have HG5 : Hid (ASt w5 g gR s (.slice a' k c') (.iface 53 v)) := hg5
          have HFR5 : Hid (Fr (fun j => lo ≤ j ∧ j < B) w w5) := HFR3.out.trans (Fr.ofGrown (S := fun j => j = g) hgr5 (fun i h => by simpa using h.symm)) (fun j _ h => by omega)
          have hg5s : g < w5.heap.size := by have := World.block_lt_of_cell? w5 _ k4; exact this
          clear hg5 hgr5 HFAIL e1 e2 j3' j4' HST3 HFR3
          obtain ⟨i0, hi, hz0, hz1, hz2⟩ := info_parts Tryf.info5
          go_wp2_with (first | (at_make; refine wpList_make_full _ rfl (.tmp 57) (.tmp 57) 30 rfl w5.heap.size 5 i0 (.int .u8 0) 1 Tryf.underlying30 hi hz0 hz1 .i64 .i64 _ _ k rfl rfl rfl rfl (by rw [hz2]; omega) (by unfold maxLen; omega) (Nat.le_refl _) ?_; intro w6 hown hgrow) | fail)
          rw [made_zero] at hown
          have HR : Hid (Rd w6 (some ⟨w5.heap.size, 0, none⟩) k (List.replicate k 0)) := Rd.ofOwns hown
          have HG6 : Hid (w5.grownBy w6 none) := hgrow
          clear hown hgrow hi hz0 hz1 hz2
          go_wp2
          go_ret
          exact dpost_fail hlt HR.out HG5.out HG6.out HFR5.out hg5s
        · have HEU : Hid (aU ≠ aE) := hEU
          clear hEU
          go_wp2_with fail
          refine (is_other aU aE cU cE tU tE _ HEU.out HS3.out.rU HS3.out.rE).mono ?_
          rintro e w4 ⟨rfl, rfl⟩
          go_wp2_with fail
          refine (is_same aU _).mono ?_
          rintro e w4' ⟨rfl, rfl⟩
          go_wp2_with fail
          refine HFAIL.out.mono ?_
          rintro e w5 ⟨rfl, v, hg5, hgr5⟩
          have k4 : w5.cell? ⟨g, 4, none⟩ = some (.iface 53 v) := by rw [cell_of_row w5 g 4 _ 43 (0, 0) hg5]; rfl
          have HG5 : Hid (ASt w5 g gR s (.slice a' k c') (.iface 53 v)) := hg5
          have HFR5 : Hid (Fr (fun j => lo ≤ j ∧ j < B) w w5) := HFR3.out.trans (Fr.ofGrown (S := fun j => j = g) hgr5 (fun i h => by simpa using h.symm)) (fun j _ h => by omega)
          have hg5s : g < w5.heap.size := by have := World.block_lt_of_cell? w5 _ k4; exact this
          clear hg5 hgr5 HFAIL e1 e2 j3' j4' HST3 HFR3
          obtain ⟨i0, hi, hz0, hz1, hz2⟩ := info_parts Tryf.info5
          go_wp2_with (first | (at_make; refine wpList_make_full _ rfl (.tmp 57) (.tmp 57) 30 rfl w5.heap.size 5 i0 (.int .u8 0) 1 Tryf.underlying30 hi hz0 hz1 .i64 .i64 _ _ k rfl rfl rfl rfl (by rw [hz2]; omega) (by unfold maxLen; omega) (Nat.le_refl _) ?_; intro w6 hown hgrow) | fail)
          rw [made_zero] at hown
          have HR : Hid (Rd w6 (some ⟨w5.heap.size, 0, none⟩) k (List.replicate k 0)) := Rd.ofOwns hown
          have HG6 : Hid (w5.grownBy w6 none) := hgrow
          clear hown hgrow hi hz0 hz1 hz2
          go_wp2
          go_ret
          exact dpost_fail hlt HR.out HG5.out HG6.out HFR5.out hg5s

end Go.Proofs.Qxb6616877aFmt
