/-
  The law FnTakeWholeAndArrivingAgree (function 4), out of the contracts.
-/
import Derived.Test.Qxb6616877aFmtArr
namespace Go.Proofs.Qxb6616877aFmt
open Go.RowKit Go.Extern.Stop Go.Stop Go.Extern
set_option linter.unusedVariables false

/-- The slice at 'a' of 'n' ints reads as 'ks'. -/
def RdI (w : World) (a : Option Addr) (n : Nat) (ks : List Int) : Prop :=
  ks.length = n ∧ ∀ i, i < n → ∃ b off, a = some ⟨b, off, none⟩ ∧ w.cell? ⟨b, off + i, none⟩ = some (.int .i64 (ks.getD i 0))

theorem bytes7_yes (a : Option Addr) (n c : Nat) (a' : Option Addr) (m c' : Nat) (w : World) (h : n + m ≤ 1048576) :
    Calls Tryf.prog 7 #[.slice a n c, .slice a' m c'] w fun e w' => e = .returned (.bool true) ∧ w' = w := by
  have h1 : ¬ (1048576 : Int) < (n : Int) := by omega
  have h2 : ¬ (1048576 : Int) < (m : Int) := by omega
  have h3 : ¬ (1048576 : Int) < (n : Int) + (m : Int) := by omega
  go_enter Tryf.func7, Tryf.ntmps7
  go_wp2
  go_ret
  exact ⟨rfl, rfl⟩

theorem bytes7_no (a : Option Addr) (n c : Nat) (a' : Option Addr) (m c' : Nat) (w : World) (h : ¬ n + m ≤ 1048576) :
    Calls Tryf.prog 7 #[.slice a n c, .slice a' m c'] w fun e w' => e = .returned (.bool false) ∧ w' = w := by
  by_cases h1 : (1048576 : Int) < (n : Int)
  · go_enter Tryf.func7, Tryf.ntmps7
    go_wp2
    go_ret
    exact ⟨rfl, rfl⟩
  · by_cases h2 : (1048576 : Int) < (m : Int)
    · go_enter Tryf.func7, Tryf.ntmps7
      go_wp2
      go_ret
      exact ⟨rfl, rfl⟩
    · have h3 : (1048576 : Int) < (n : Int) + (m : Int) := by omega
      go_enter Tryf.func7, Tryf.ntmps7
      go_wp2
      go_ret
      exact ⟨rfl, rfl⟩

set_option maxHeartbeats 400000 in
theorem law_early (a0 : Option Addr) (n c0 : Nat) (a1 : Option Addr) (m c1 : Nat) (w : World) (h : ¬ (n + m ≤ 1048576 ∧ m ≤ 131072 ∧ n + 8 * m ≤ 1048576)) :
    Calls Tryf.prog 4 #[.slice a0 n c0, .slice a1 m c1] w fun e w' => e = .returned (.bool true) ∧ Below w.heap.size w w' := by
  by_cases h1 : n + m ≤ 1048576
  · have hn : ¬ (1048576 : Int) < (n : Int) := by omega
    by_cases h2 : (131072 : Int) < (m : Int)
    · go_enter Tryf.func4, Tryf.ntmps4
      go_wp2_with fail
      refine (bytes7_yes _ _ _ _ _ _ _ h1).mono ?_
      rintro e w' ⟨rfl, rfl⟩
      go_wp2
      go_ret
      exact ⟨rfl, Below.refl _ _⟩
    · have h3 : (1048576 : Int) < (n : Int) + 8 * (m : Int) := by omega
      go_enter Tryf.func4, Tryf.ntmps4
      go_wp2_with fail
      refine (bytes7_yes _ _ _ _ _ _ _ h1).mono ?_
      rintro e w' ⟨rfl, rfl⟩
      go_wp2
      go_ret
      exact ⟨rfl, Below.refl _ _⟩
  · go_enter Tryf.func4, Tryf.ntmps4
    go_wp2_with fail
    refine (bytes7_no _ _ _ _ _ _ _ h1).mono ?_
    rintro e w' ⟨rfl, rfl⟩
    go_wp2
    go_ret
    exact ⟨rfl, Below.refl _ _⟩

/-- The first 't' sizes are small and not negative. -/
def Small (ks : List Int) (t : Nat) : Prop := ∀ j, j < t → 0 ≤ ks.getD j 0 ∧ ks.getD j 0 ≤ 65536

theorem small_step {ks : List Int} {t : Nat} (h : Small ks t) (h1 : 0 ≤ ks.getD t 0) (h2 : ks.getD t 0 ≤ 65536) : Small ks (t + 1) := fun j hj => by
  by_cases e : j = t
  · subst e; exact ⟨h1, h2⟩
  · exact h j (by omega)

/-- b1CloneBytes, with where the copy lies. -/
theorem clone_at (a : Option Addr) (n c : Nat) (zs : List Int) (w : World) (hr : Rd w a n zs) (hn : n ≤ 4194304) (h0 : a = none → n = 0) :
    Calls Tryf.prog 8 #[.slice a n c] w fun e w' => ∃ a', e = .returned (.slice a' n n) ∧ Rd w' a' n zs ∧ Sh a' n n ∧ (∀ b off, a' = some ⟨b, off, none⟩ → w.heap.size ≤ b ∧ b < w'.heap.size) ∧ Below w.heap.size w w' := by
  cases a with
  | none =>
    obtain rfl := h0 rfl
    refine (clone_nil c w).mono fun e w' ⟨he, hw⟩ => ?_
    subst hw
    exact ⟨none, he, hr, ⟨Nat.le_refl _, fun _ => rfl, fun x hx => by cases hx⟩, fun b off h => (by cases h), Below.refl _ _⟩
  | some x =>
    refine (clone_some x n c zs w hr hn).mono fun e w' ⟨he, ho, hb⟩ => ?_
    have hl := ho.lt w.heap.size rfl
    exact ⟨_, he, Rd.ofOwns ho, ⟨Nat.le_refl _, fun h => by simp at h, fun x hx => by simp at hx; rw [← hx]⟩, fun b off h => by simp at h; omega, hb⟩

theorem winv_new (s : ByteArray) (a : Option Addr) (n : Nat) (zs : List Int) (w : World) (hr : Rd w a n zs) (hsh : Sh a n n) (hb : ∀ b off, a = some ⟨b, off, none⟩ → b < w.heap.size) (hn : n ≤ 4194304) :
    WInv (w.alloc (.cells #[.string s, .slice a n n, .nilIface, .slice none 0 0, .nilIface] 43)) w.heap.size s (some zs) :=
  ⟨a, n, n, .nilIface, heap_alloc_new w _, hsh, hn, .inl ⟨zs, rfl, rfl, hr.below ((Below.refl _ _).alloc (Nat.le_refl _) _), hb⟩⟩

theorem ainv_new (s : ByteArray) (lo : Nat) (a : Option Addr) (n : Nat) (zs : List Int) (w : World) (hr : Rd w a n zs) (hsh : Sh a n n) (hb : ∀ b off, a = some ⟨b, off, none⟩ → lo ≤ b ∧ b < w.heap.size) (hn : n ≤ 4194304) (hlo : lo ≤ w.heap.size) :
    AInv ((w.alloc (.cells #[.slice a n n, .int .i64 0, .int .i64 (-1)] 51)).alloc (.cells #[.string s, .slice none 0 0, .iface 44 (.pointer (some ⟨w.heap.size, 0, none⟩)), .slice none 0 0, .nilIface] 43)) (w.heap.size + 1) w.heap.size lo (w.heap.size + 2) s (some zs) := by
  have e1 : (w.alloc (.cells #[.slice a n n, .int .i64 0, .int .i64 (-1)] 51)).heap.size = w.heap.size + 1 := by simp
  have hst : ASt ((w.alloc (.cells #[.slice a n n, .int .i64 0, .int .i64 (-1)] 51)).alloc (.cells #[.string s, .slice none 0 0, .iface 44 (.pointer (some ⟨w.heap.size, 0, none⟩)), .slice none 0 0, .nilIface] 43)) (w.heap.size + 1) w.heap.size s (.slice none 0 0) .nilIface := by
    unfold ASt
    have := heap_alloc_new (w.alloc (.cells #[.slice a n n, .int .i64 0, .int .i64 (-1)] 51)) (.cells #[.string s, .slice none 0 0, .iface 44 (.pointer (some ⟨w.heap.size, 0, none⟩)), .slice none 0 0, .nilIface] 43)
    rw [e1] at this
    exact this
  have hbl : Below w.heap.size w ((w.alloc (.cells #[.slice a n n, .int .i64 0, .int .i64 (-1)] 51)).alloc (.cells #[.string s, .slice none 0 0, .iface 44 (.pointer (some ⟨w.heap.size, 0, none⟩)), .slice none 0 0, .nilIface] 43)) :=
    ((Below.refl _ _).alloc (Nat.le_refl _) _).alloc (by rw [e1]; omega) _
  have hrs : RSt ((w.alloc (.cells #[.slice a n n, .int .i64 0, .int .i64 (-1)] 51)).alloc (.cells #[.string s, .slice none 0 0, .iface 44 (.pointer (some ⟨w.heap.size, 0, none⟩)), .slice none 0 0, .nilIface] 43)) w.heap.size a n n ((0 : Nat) : Int) (-1) := by
    unfold RSt
    rw [Below.heap_alloc _ _ _ (by rw [e1]; omega)]
    exact heap_alloc_new w _
  exact ⟨_, _, hst, by omega, hlo, by omega, .inl ⟨zs, none, 0, 0, rfl, rfl, rfl, ⟨a, n, n, 0, -1, zs, hrs, hsh, hn, by omega, hr.below hbl, by simp, hb⟩, ⟨by omega, .inl ⟨rfl, rfl⟩⟩⟩⟩

/-- What is left agrees with what has been asked for: T of n. -/
def Agr (r : Option (List Int)) (n T : Nat) : Prop := (∃ z, r = some z ∧ T + z.length = n) ∨ (r = none ∧ n < T)
theorem agr_step {r : Option (List Int)} {n T : Nat} (h : Agr r n T) (k : Nat) : Agr (nextT r k) n (T + k) := by
  rcases h with ⟨z, rfl, hz⟩ | ⟨rfl, hz⟩
  · by_cases hk : k ≤ z.length
    · exact .inl ⟨z.drop k, by simp [nextT, hk], by simp; omega⟩
    · exact .inr ⟨by simp [nextT]; omega, by omega⟩
  · exact .inr ⟨rfl, by omega⟩
theorem agr_err {r : Option (List Int)} {n T : Nat} {v : Value} (h : Agr r n T) (hv : errV r v) : (T ≤ n → v = .nilIface) ∧ (n < T → ∃ X u, v = .iface X u) := by
  rcases h with ⟨z, rfl, hz⟩ | ⟨rfl, hz⟩
  · rcases hv with ⟨_, h⟩ | ⟨h, _⟩
    · exact ⟨fun _ => h, fun h' => by omega⟩
    · cases h
  · rcases hv with ⟨h, _⟩ | ⟨_, h⟩
    · simp at h
    · exact ⟨fun h' => by omega, fun _ => h⟩

set_option maxRecDepth 100000 in
set_option maxHeartbeats 4000000 in
theorem law_main (F : Interp) (a0 : Option Addr) (n c0 : Nat) (zs : List Int) (a1 : Option Addr) (m c1 : Nat) (ks : List Int) (aE aU : Addr) (cE cU : Array Value) (tE tU : TypeId) (w : World) (hF : F.answers w.tape)
    (hr0 : Rd w a0 n zs) (hn0 : a0 = none → n = 0) (hr1 : RdI w a1 m ks) (hS : Sent w w.heap.size aE aU cE cU tE tU) (h : n + m ≤ 1048576 ∧ m ≤ 131072 ∧ n + 8 * m ≤ 1048576) :
    Calls Tryf.prog 4 #[.slice a0 n c0, .slice a1 m c1] w fun e w' => e = .returned (.bool true) ∧ Below w.heap.size w w' := by
  obtain ⟨h1, h2, h3⟩ := h
  have hn : ¬ (1048576 : Int) < (n : Int) := by omega
  have hm : ¬ (131072 : Int) < (m : Int) := by omega
  have hnm : ¬ (1048576 : Int) < (n : Int) + 8 * (m : Int) := by omega
  have HR0 : Hid (Rd w a0 n zs) := hr0
  have HN0 : Hid (a0 = none → n = 0) := hn0
  have HR1 : Hid (RdI w a1 m ks) := hr1
  have HS : Hid (Sent w w.heap.size aE aU cE cU tE tU) := hS
  clear hr0 hn0 hr1 hS
  go_enter Tryf.func4, Tryf.ntmps4
  go_wp2_with fail
  refine (bytes7_yes _ _ _ _ _ _ _ h1).mono ?_
  rintro e w' ⟨rfl, rfl⟩
  go_wp2
  go_loop [5, 6] (fun sm i => ∃ (j : Nat) (t : Int), j ≤ m ∧ i = .int .i64 j ∧ 0 ≤ t ∧ t ≤ 1048576 ∧ sm = .int .i64 t ∧ Hid (Small ks j)) (fun _ i => m - (intOf i).toNat)
  case atStart => exact ⟨0, 0, Nat.zero_le _, rfl, by omega, by omega, rfl, fun j hj => by omega⟩
  case round =>
    obtain ⟨j, t, hj, rfl, ht0, ht1, rfl, HSM⟩ := hrel
    by_cases hlt : j < m
    · obtain ⟨b, off, hx, hc⟩ := HR1.out.2 j hlt
      obtain ⟨y, hy⟩ : ∃ y, ks.getD j 0 = y := ⟨_, rfl⟩
      rw [hy] at hc
      have HY : Hid (ks.getD j 0 = y) := hy
      clear hy
      cases hx
      by_cases hy0 : y < 0
      · go_wp2
        go_ret
        exact ⟨rfl, Below.refl _ _⟩
      · by_cases hy1 : (65536 : Int) < y
        · go_wp2
          go_ret
          exact ⟨rfl, Below.refl _ _⟩
        · by_cases hs : (1048576 : Int) < t + y
          · go_wp2
            go_ret
            exact ⟨rfl, Below.refl _ _⟩
          · go_wp2
            go_round
            case rel => exact ⟨j + 1, t + y, by omega, by go_num, by omega, by omega, rfl, small_step HSM.out (by rw [HY.out]; omega) (by rw [HY.out]; omega)⟩
            case measure => simp [intOf]; omega
    · have e : j = m := by omega
      subst e
      go_wp2_with fail
      refine (clone_at _ _ _ zs _ HR0.out (by omega) HN0.out).mono ?_
      rintro e w1 ⟨d1, rfl, hrd1, hsh1, hbl1, hb1⟩
      have RD1 : Hid (Rd w1 d1 n zs) := hrd1
      have SH1 : Hid (d1 = none → n = 0) := hsh1.2.1
      have B1 : Hid (Below w'.heap.size w' w1) := hb1
      clear hrd1 hsh1 hbl1 hb1
      go_wp2_with fail
      refine (clone_at _ _ _ zs _ RD1.out (by omega) SH1.out).mono ?_
      rintro e w2 ⟨d2, rfl, hrd2, hsh2, hbl2, hb2⟩
      have RD2 : Hid (Rd w2 d1 n zs) := RD1.out.below hb2
      have WI := winv_new ⟨#[112, 114, 111, 111, 102]⟩ d2 n zs w2 hrd2 hsh2 (fun b off h => (hbl2 b off h).2) (by omega)
      have B2 : Hid (Below w'.heap.size w' w2) := B1.out.trans (hb2.mono B1.out.size)
      clear hrd2 hsh2 hbl2 hb2 RD1 B1
      have WI2 := show Hid _ from WI
      clear WI
      go_wp2_with fail
      refine (new_whole _ _ _ _ _).mono ?_
      rintro e w3 ⟨rfl, hw3⟩
      have hb3 : Below w2.heap.size w2 w3 := by rw [hw3]; exact (Below.refl _ _).alloc (Nat.le_refl _) _
      have hs3 : w3.heap.size = w2.heap.size + 1 := by rw [hw3]; simp
      have WI3 : Hid (WInv w3 w2.heap.size ⟨#[112, 114, 111, 111, 102]⟩ (some zs)) := by rw [hw3]; exact WI2.out
      have RD3 : Hid (Rd w3 d1 n zs) := RD2.out.below hb3
      have B3 : Hid (Below w'.heap.size w' w3) := B2.out.trans (hb3.mono B2.out.size)
      have HS3 : Hid (w3.heap.size = w2.heap.size + 1) := hs3
      have hgW : w'.heap.size ≤ w2.heap.size := B2.out.size
      obtain ⟨gW, hgWe⟩ : ∃ gW, gW = w2.heap.size := ⟨_, rfl⟩
      have HGW : Hid (gW = w2.heap.size) := hgWe
      rw [← hgWe] at WI3 hgW HS3 ⊢
      clear hw3 hb3 hs3 WI2 RD2 B2 hgWe HGW
      go_wp2_with fail
      refine (clone_at _ _ _ zs _ RD3.out (by omega) SH1.out).mono ?_
      rintro e w4 ⟨d4, rfl, hrd4, hsh4, hbl4, hb4⟩
      have AI := ainv_new ⟨#[112, 114, 111, 111, 102]⟩ (gW + 1) d4 n zs w4 hrd4 hsh4 (fun b off h => ⟨by have := (hbl4 b off h).1; have := HS3.out; omega, (hbl4 b off h).2⟩) (by omega) (by have := hb4.size; have := HS3.out; omega)
      have WI4 : Hid (WInv w4 gW ⟨#[112, 114, 111, 111, 102]⟩ (some zs)) := WI3.out.fr (S := fun _ => False) (Fr.ofBelow hb4) (fun _ h => h.elim)
      have B4 : Hid (Below w'.heap.size w' w4) := B3.out.trans (hb4.mono B3.out.size)
      have G4 : Hid (gW < w4.heap.size) := by have := hb4.size; have := HS3.out; show gW < w4.heap.size; omega
      have AI4 := show Hid _ from AI
      clear AI hrd4 hsh4 hbl4 hb4 WI3 RD3 B3 HS3 SH1
      go_wp2_with fail
      refine (new_arr _ _ _ _ _).mono ?_
      rintro e w5 ⟨rfl, hw5⟩
      have hb5 : Below w4.heap.size w4 w5 := by rw [hw5]; exact ((Below.refl _ _).alloc (Nat.le_refl _) _).alloc (by simp) _
      have hs5 : w5.heap.size = w4.heap.size + 2 := by rw [hw5]; simp
      have AI5 : Hid (AInv w5 (w4.heap.size + 1) w4.heap.size (gW + 1) w5.heap.size ⟨#[112, 114, 111, 111, 102]⟩ (some zs)) := by rw [hs5, hw5]; exact AI4.out
      have WI5 : Hid (WInv w5 gW ⟨#[112, 114, 111, 111, 102]⟩ (some zs)) := WI4.out.fr (S := fun _ => False) (Fr.ofBelow hb5) (fun _ h => h.elim)
      have B5 : Hid (Below w'.heap.size w' w5) := B4.out.trans (hb5.mono B4.out.size)
      obtain ⟨gR, hgR⟩ : ∃ gR, gR = w4.heap.size := ⟨_, rfl⟩
      have hWR : gW < gR := by rw [hgR]; exact G4.out
      rw [← hgR] at AI5 ⊢
      clear hw5 hb5 hs5 hgR AI4 WI4 B4 G4
      go_wp2
      go_loopw [9, 10] (fun tt i wr => ∃ (q T : Nat) (r : Option (List Int)), q ≤ j ∧ i = .int .i64 q ∧ tt = .int .i64 T ∧ T ≤ q * 65536 ∧ Hid (Agr r n T) ∧ Hid (WInv wr gW ⟨#[112, 114, 111, 111, 102]⟩ r) ∧ Hid (AInv wr (gR + 1) gR (gW + 1) wr.heap.size ⟨#[112, 114, 111, 111, 102]⟩ r) ∧ Hid (Below w'.heap.size w' wr)) (fun _ i _ => j - (intOf i).toNat)
      case atStart => exact ⟨0, 0, some zs, Nat.zero_le _, rfl, rfl, by omega, .inl ⟨zs, rfl, by have := HR0.out.1; omega⟩, WI5, AI5, B5⟩
      case round =>
        obtain ⟨q, T, r, hq, rfl, rfl, hT, HAG, HWI, HAI, HBL⟩ := hrel
        clear WI5 AI5 B5
        by_cases hlt2 : q < j
        · obtain ⟨b, off, hx, hc⟩ := HR1.out.2 q hlt2
          have hyb := HSM.out q hlt2
          obtain ⟨k, hky⟩ : ∃ k : Nat, ks.getD q 0 = (k : Int) := ⟨(ks.getD q 0).toNat, by omega⟩
          rw [hky] at hc hyb
          have hk1 : k ≤ 65536 := by omega
          have hcr : wr.cell? ⟨b, off + q, none⟩ = some (.int .i64 (k : Int)) := (HBL.out.cell (p := ⟨b, off + q, none⟩) (World.block_lt_of_cell? w' _ hc)).trans hc
          have hFr : F.answers wr.tape := by rw [HBL.out.tape]; exact hF
          clear hc hyb hky
          cases hx
          go_wp2_with fail
          refine (who_take F gW _ r k _ hFr HWI.out (by omega)).mono ?_
          rintro e w1 ⟨v, rfl, x1, cx1, hv, hrd1, hfre1, hwi1, hgr1⟩
          subst hv
          have hfrG : Fr (fun i => i = gW) wr w1 := Fr.ofGrown hgr1 (fun i h => by simpa using h.symm)
          have HAI1 : Hid (AInv w1 (gR + 1) gR (gW + 1) wr.heap.size ⟨#[112, 114, 111, 111, 102]⟩ r) := HAI.out.fr hfrG (fun i h => by omega) (Nat.le_refl _) (Nat.le_refl _)
          have HBL1 : Hid (Below w'.heap.size w' w1) := HBL.out.trans ⟨hgr1.os, hgr1.tape, hgr1.output, hgr1.size, fun i hi => hgr1.block i (by have := HBL.out.size; omega) (by simp; omega)⟩
          have hsz1 : wr.heap.size ≤ w1.heap.size := hgr1.size
          have hgRs : gR + 1 < wr.heap.size := by obtain ⟨_, _, _, _, _, h, _⟩ := HAI.out; exact h
          have HS1 : Hid (Sent w1 (gW + 1) aE aU cE cU tE tU) := HS.out.ofBelow HBL1.out (by omega) (by omega)
          have hF1 : F.answers w1.tape := by rw [HBL1.out.tape]; exact hF
          have HRD1 : Hid (Rd w1 x1 k (outT r k)) := hrd1
          have HFRE1 : Hid (∀ b off, x1 = some ⟨b, off, none⟩ → b < gW ∨ wr.heap.size ≤ b) := hfre1
          have HWI1 : Hid (WInv w1 gW ⟨#[112, 114, 111, 111, 102]⟩ (nextT r k)) := hwi1
          clear hrd1 hfre1 hwi1 hgr1 hfrG HWI HAI HBL hcr hFr
          go_wp2_with fail
          refine (arr_take F (gR + 1) gR (gW + 1) wr.heap.size _ r k aE aU cE cU tE tU _ hF1 HAI1.out HS1.out hsz1 (by omega)).mono ?_
          rintro e w2 ⟨v2, rfl, x2, cx2, hv2, hrd2, hai2, hfr2⟩
          subst hv2
          have HX1 : Hid (Rd w2 x1 k (outT r k)) := HRD1.out.fr hfr2 (fun b off h hb => by have := HFRE1.out b off h; omega)
          have HX2 : Hid (Rd w2 x2 k (outT r k)) := hrd2
          have HWI2 : Hid (WInv w2 gW ⟨#[112, 114, 111, 111, 102]⟩ (nextT r k)) := HWI1.out.fr hfr2 (fun i h => by omega)
          have HAI2 : Hid (AInv w2 (gR + 1) gR (gW + 1) w2.heap.size ⟨#[112, 114, 111, 111, 102]⟩ (nextT r k)) := hai2
          have HBL2 : Hid (Below w'.heap.size w' w2) := HBL1.out.trans ⟨hfr2.os, hfr2.tape, hfr2.output, hfr2.size, fun i hi => hfr2.block i (by have := HBL1.out.size; omega) (by omega)⟩
          have HAG2 : Hid (Agr (nextT r k) n (T + k)) := agr_step HAG.out k
          clear hrd2 hai2 hfr2 HRD1 HFRE1 HWI1 HAI1 HBL1 HS1 hF1 HAG hsz1 hgRs
          go_wp2
          go_loopw [14] (fun i wq => ∃ u q' : Nat, u ≤ k ∧ i = .int .i64 u ∧ wq = w2.drewN q') (fun i _ => k - (intOf i).toNat)
          case atStart => exact ⟨0, 0, Nat.zero_le _, rfl, rfl⟩
          case round =>
            obtain ⟨u, q', hu, rfl, rfl⟩ := hrel
            by_cases hlt3 : u < k
            · obtain ⟨b1, o1, hx1, hc1⟩ := HX1.out.2 u hlt3
              obtain ⟨b2, o2, hx2, hc2⟩ := HX2.out.2 u hlt3
              obtain ⟨y, hy⟩ : ∃ y, (outT r k).getD u 0 = y := ⟨_, rfl⟩
              rw [hy] at hc1 hc2
              clear hy
              cases hx1
              cases hx2
              go_wp2
              go_quiet (fail)
              go_wp2
              go_roundw
              case rel => exact ⟨u + 1, _, by omega, by go_num, rfl⟩
              case measure => simp [intOf]; omega
            · have hbq : Below w2.heap.size w2 (w2.drewN q') := below_drewN (Below.refl _ _) _
              have HWI3 : Hid (WInv (w2.drewN q') gW ⟨#[112, 114, 111, 111, 102]⟩ (nextT r k)) := HWI2.out.fr (S := fun _ => False) (Fr.ofBelow hbq) (fun _ h => h.elim)
              have HAI3 : Hid (AInv (w2.drewN q') (gR + 1) gR (gW + 1) (w2.drewN q').heap.size ⟨#[112, 114, 111, 111, 102]⟩ (nextT r k)) := HAI2.out.fr (S := fun _ => False) (Fr.ofBelow hbq) (fun _ h => h.elim) (Nat.le_refl _) (Nat.le_refl _)
              have HBL3 : Hid (Below w'.heap.size w' (w2.drewN q')) := below_drewN HBL2.out _
              clear hbq HX1 HX2 HWI2 HAI2 HBL2
              by_cases hcut : T + k ≤ n
              · have hcut' : ¬ (n : Int) < (T : Int) + (k : Int) := by omega
                go_wp2_with fail
                refine (who_err gW _ _ _ HWI3.out).mono ?_
                rintro e w3 ⟨v, hev, rfl, hw3⟩
                have hvn := (agr_err HAG2.out hev).1 hcut
                subst hvn
                rw [hw3]
                clear hev hw3
                go_wp2_with fail
                refine (arr_err (gR + 1) gR (gW + 1) _ _ _ _ HAI3.out).mono ?_
                rintro e w4 ⟨v, hev, rfl, hw4⟩
                have hvn := (agr_err HAG2.out hev).1 hcut
                subst hvn
                rw [hw4]
                clear hev hw4
                go_wp2
                go_roundw
                case rel => exact ⟨q + 1, T + k, nextT r k, by omega, by go_num, by go_num, by omega, HAG2, HWI3, HAI3, HBL3⟩
                case measure => simp [intOf]; omega
              · have hcut' : (n : Int) < (T : Int) + (k : Int) := by omega
                go_wp2_with fail
                refine (who_err gW _ _ _ HWI3.out).mono ?_
                rintro e w3 ⟨v, hev, rfl, hw3⟩
                obtain ⟨X, u1, hvn⟩ := (agr_err HAG2.out hev).2 (by omega)
                subst hvn
                rw [hw3]
                clear hev hw3
                go_wp2_with fail
                refine (arr_err (gR + 1) gR (gW + 1) _ _ _ _ HAI3.out).mono ?_
                rintro e w4 ⟨v, hev, rfl, hw4⟩
                obtain ⟨X2, u2, hvn⟩ := (agr_err HAG2.out hev).2 (by omega)
                subst hvn
                rw [hw4]
                clear hev hw4
                go_wp2
                go_roundw
                case rel => exact ⟨q + 1, T + k, nextT r k, by omega, by go_num, by go_num, by omega, HAG2, HWI3, HAI3, HBL3⟩
                case measure => simp [intOf]; omega
        · go_wp2
          go_ret
          exact ⟨rfl, HBL.out⟩

end Go.Proofs.Qxb6616877aFmt
