/-
  take on a decoder of a whole encoding, in one word: what it gives and what it leaves are plain functions of what was left ('none': it has failed).
-/
import Derived.Test.Qxb6616877aFmtWhole
namespace Go.Proofs.Qxb6616877aFmt
open Go.RowKit Go.Extern.Stop Go.Stop Go.Extern

def outT (r : Option (List Int)) (k : Nat) : List Int :=
  match r with
  | some zs => if k ≤ zs.length then zs.take k else List.replicate k 0
  | none => List.replicate k 0
def nextT (r : Option (List Int)) (k : Nat) : Option (List Int) :=
  match r with
  | some zs => if k ≤ zs.length then some (zs.drop k) else none
  | none => none

/-- A slice's address, length and capacity as they come. -/
def Sh (a : Option Addr) (n c : Nat) : Prop := n ≤ c ∧ (a = none → c = 0) ∧ ∀ x, a = some x → x.spot = none

theorem Rd.take {w : World} {a : Option Addr} {n : Nat} {zs : List Int} (h : Rd w a n zs) {k : Nat} (hk : k ≤ n) : Rd w a k (zs.take k) := by
  refine ⟨by have := h.1; simp; omega, fun i hi => ?_⟩
  obtain ⟨b, off, ha, hc⟩ := h.2 i (by omega)
  refine ⟨b, off, ha, ?_⟩
  rw [hc]; simp [List.getD_eq_getElem?_getD, hi]

theorem Rd.drop {w : World} {b off n : Nat} {zs : List Int} (h : Rd w (some ⟨b, off, none⟩) n zs) {k : Nat} (hk : k ≤ n) : Rd w (some ⟨b, off + k, none⟩) (n - k) (zs.drop k) := by
  refine ⟨by have := h.1; simp; omega, fun i hi => ?_⟩
  obtain ⟨b', off', ha, hc⟩ := h.2 (k + i) (by omega)
  simp only [Option.some.injEq, Addr.mk.injEq, and_true] at ha
  obtain ⟨rfl, rfl⟩ := ha
  refine ⟨b, off + k, rfl, ?_⟩
  rw [Nat.add_assoc, hc]; simp [List.getD_eq_getElem?_getD]

theorem Rd.zero (w : World) (a : Option Addr) : Rd w a 0 [] := ⟨rfl, fun i hi => by omega⟩

theorem Rd.grown {w w' : World} {a : Option Addr} {n : Nat} {zs : List Int} {row : Option Nat} (h : Rd w a n zs) (hg : w.grownBy w' row) (hne : ∀ b off, a = some ⟨b, off, none⟩ → some b ≠ row) : Rd w' a n zs := by
  refine ⟨h.1, fun i hi => ?_⟩
  obtain ⟨b, off, ha, hc⟩ := h.2 i hi
  exact ⟨b, off, ha, hg.cell hc (hne b off ha)⟩

/-- The whole decoder at block g has 'r' left. -/
def WInv (w : World) (g : Nat) (s : ByteArray) (r : Option (List Int)) : Prop :=
  ∃ a n c e, WSt w g s a n c e ∧ Sh a n c ∧ n ≤ 4194304 ∧ ((∃ zs, r = some zs ∧ e = .nilIface ∧ Rd w a n zs ∧ ∀ b off, a = some ⟨b, off, none⟩ → b < g) ∨ (r = none ∧ ∃ T v, e = .iface T v))

theorem set1 {w : World} {g : Nat} {s : ByteArray} {a : Option Addr} {n c : Nat} {e : Value} (hg : WSt w g s a n c e) (a' : Option Addr) (n' c' : Nat) :
    WSt (w.setCell ⟨g, 1, none⟩ (.slice a' n' c')) g s a' n' c' e ∧ w.grownBy (w.setCell ⟨g, 1, none⟩ (.slice a' n' c')) (some g) := by
  refine ⟨?_, rfl, rfl, rfl, by simp [World.setCell], fun k hk hne => heap_setCell_other w ⟨g, 1, none⟩ k _ (fun e => hne (by rw [e]))⟩
  unfold WSt
  rw [heap_setCell_same w g 1 _ 43 _ hg]; rfl

theorem whole_take (F : Interp) (g : Nat) (s : ByteArray) (r : Option (List Int)) (k : Nat) (w : World) (hF : F.answers w.tape) (hw : WInv w g s r) (hk : k ≤ 4194304) :
    Calls Tryf.prog 16 #[.pointer (some ⟨g, 0, none⟩), .int .i64 k] w fun e w' => ∃ a1 c1, e = .returned (.slice a1 k c1) ∧ Rd w' a1 k (outT r k) ∧ (∀ b off, a1 = some ⟨b, off, none⟩ → b < g ∨ w.heap.size ≤ b) ∧ WInv w' g s (nextT r k) ∧ w.grownBy w' (some g) := by
  obtain ⟨a, n, c, e, hst, hsh, hn, hr⟩ := hw
  rcases hr with ⟨zs, rfl, rfl, hrd, hlt⟩ | ⟨rfl, T, v, rfl⟩
  · have hzl : zs.length = n := hrd.1
    by_cases hkn : k ≤ n
    · have eo : outT (some zs) k = zs.take k := by simp [outT, hzl, hkn]
      have en : nextT (some zs) k = some (zs.drop k) := by simp [nextT, hzl, hkn]
      rw [eo, en]
      by_cases hck : c = k
      · have e1 : n = c := by have := hsh.1; omega
        subst e1
        subst hck
        refine (whole_all g s a n w hst hn).mono fun e w' ⟨he, hw'⟩ => ?_
        subst hw'
        obtain ⟨h1, h2⟩ := set1 hst a 0 0
        refine ⟨a, n, he, (hrd.take hkn).grown h2 (fun b off ha hb => ?_), fun b off ha => .inl (hlt b off ha), ⟨a, 0, 0, _, h1, ⟨Nat.le_refl _, fun _ => rfl, hsh.2.2⟩, by omega, .inl ⟨_, rfl, rfl, ?_, hlt⟩⟩, h2⟩
        · have := hlt b off ha; simp at hb; omega
        · have : zs.drop n = [] := List.drop_of_length_le (by omega)
          rw [this]; exact Rd.zero _ _
      · obtain ⟨b, off, rfl⟩ : ∃ b off, a = some ⟨b, off, none⟩ := by
          cases ha : a with
          | none => have := hsh.2.1 ha; have := hsh.1; omega
          | some x =>
            obtain ⟨b, off, spot⟩ := x
            have := hsh.2.2 _ ha
            simp at this; subst this; exact ⟨b, off, rfl⟩
        refine (whole_some g s b off n c k w hst hkn hsh.1 hck hn).mono fun e w' ⟨he, hw'⟩ => ?_
        subst hw'
        obtain ⟨h1, h2⟩ := set1 hst (some ⟨b, off + k, none⟩) (n - k) (c - k)
        have hbg := hlt b off rfl
        refine ⟨_, _, he, (hrd.take hkn).grown h2 (fun b' off' ha hb => ?_), fun b' off' ha => .inl (hlt b' off' ha), ⟨_, _, _, _, h1, ⟨by have := hsh.1; omega, by simp, fun x hx => by simp at hx; rw [← hx]⟩, by omega, .inl ⟨_, rfl, rfl, (hrd.drop hkn).grown h2 (fun b' off' ha hb => ?_), fun b' off' ha => ?_⟩⟩, h2⟩
        · simp at ha hb; omega
        · simp at ha hb; omega
        · simp at ha; omega
    · have eo : outT (some zs) k = List.replicate k 0 := by simp [outT, hzl, hkn]
      have en : nextT (some zs) k = none := by simp [nextT, hzl, hkn]
      rw [eo, en]
      refine (whole_short F g s a n c k w hF hst (by omega) hk).mono fun e w' ⟨a1, v, he, hr1, hfre, hst1, hgr⟩ => ?_
      exact ⟨a1, k, he, hr1, fun b off ha => .inr (hfre b off ha), ⟨a, n, c, _, hst1, hsh, hn, .inr ⟨rfl, 53, v, rfl⟩⟩, hgr⟩
  · refine (whole_failed g s a n c k T v w hst hk).mono fun e w' ⟨a1, he, hr1, hfre, hgr⟩ => ?_
    have hgr' : w.grownBy w' (some g) := ⟨hgr.os, hgr.tape, hgr.output, hgr.size, fun i hi _ => hgr.block i hi (by simp)⟩
    have hgs : g < w.heap.size := by
      rcases Nat.lt_or_ge g w.heap.size with h | h
      · exact h
      · unfold WSt at hst; rw [Array.getElem?_eq_none h] at hst; cases hst
    exact ⟨a1, k, he, hr1, fun b off ha => .inr (hfre b off ha), ⟨a, n, c, _, (hgr.block g hgs (by simp)).trans hst, hsh, hn, .inr ⟨rfl, T, v, rfl⟩⟩, hgr'⟩

end Go.Proofs.Qxb6616877aFmt
