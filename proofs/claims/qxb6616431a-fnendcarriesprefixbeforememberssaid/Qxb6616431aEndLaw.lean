/-
  The law FnEndCarriesPrefixBeforeMembers (function 3), out of its callees' contracts.
-/
import Derived.Test.Qxb6616431aTests
namespace Go.Proofs.Qxb6616431a
open Go.RowKit

theorem same_eq (a : Option Addr) (n c : Nat) (zs : List Int) (a' : Option Addr) (n' c' : Nat) (zs' : List Int) (w : World) (hr : Rd w a n zs) (hr' : Rd w a' n' zs') (he : n' = n) (hz : zs' = zs) (hn : n ≤ 4194304) :
    Calls Try.prog 12 #[.slice a n c, .slice a' n' c'] w fun e w' => e = .returned (.bool true) ∧ Below w.heap.size w w' := by
  subst he; subst hz
  exact same_any a _ c _ a' c' w hr hr' hn

set_option maxHeartbeats 400000 in
theorem law3_early (a0 : Option Addr) (n c0 : Nat) (a1 : Option Addr) (m c1 : Nat) (zm : List Int) (w : World) (hr1 : Rd w a1 m zm)
    (h : ¬ (n + m ≤ 1048576 ∧ n ≤ 524288 ∧ m ≤ 524288 ∧ memB m zm = true)) :
    Calls Try.prog 3 #[.slice a0 n c0, .slice a1 m c1] w fun e w' => e = .returned (.bool true) ∧ Below w.heap.size w w' := by
  by_cases h1 : n + m ≤ 1048576
  · by_cases h2 : (524288 : Int) < (n : Int)
    · go_enter Try.func3, Try.ntmps3
      go_wp2_with fail
      refine (bytes6_yes _ _ _ _ _ _ _ h1).mono ?_
      rintro e w' ⟨rfl, rfl⟩
      go_wp2
      go_ret
      exact ⟨rfl, Below.refl _ _⟩
    · by_cases h3 : (524288 : Int) < (m : Int)
      · go_enter Try.func3, Try.ntmps3
        go_wp2_with fail
        refine (bytes6_yes _ _ _ _ _ _ _ h1).mono ?_
        rintro e w' ⟨rfl, rfl⟩
        go_wp2
        go_ret
        exact ⟨rfl, Below.refl _ _⟩
      · have h4 : memB m zm = false := by
          cases hh : memB m zm
          · rfl
          · exact absurd ⟨h1, by omega, by omega, hh⟩ h
        have hc := member_any a1 m c1 zm w hr1
        rw [h4] at hc
        have HC : Hid (Calls Try.prog 7 #[.slice a1 m c1] w fun e w' => e = .returned (.bool false) ∧ w' = w) := hc
        clear hc h4 h
        go_enter Try.func3, Try.ntmps3
        go_wp2_with fail
        refine (bytes6_yes _ _ _ _ _ _ _ h1).mono ?_
        rintro e w' ⟨rfl, rfl⟩
        go_wp2_with fail
        refine HC.out.mono ?_
        rintro e w' ⟨rfl, rfl⟩
        go_wp2
        go_ret
        exact ⟨rfl, Below.refl _ _⟩
  · go_enter Try.func3, Try.ntmps3
    go_wp2_with fail
    refine (bytes6_no _ _ _ _ _ _ _ h1).mono ?_
    rintro e w' ⟨rfl, rfl⟩
    go_wp2
    go_ret
    exact ⟨rfl, Below.refl _ _⟩

set_option maxHeartbeats 1000000 in
theorem law3_main (a0 : Option Addr) (n c0 : Nat) (zb : List Int) (a1 : Option Addr) (m c1 : Nat) (zm : List Int) (w : World) (hr0 : Rd w a0 n zb) (hr1 : Rd w a1 m zm) (h0 : a0 = none → n = 0) (h1 : a1 = none → m = 0)
    (h : n + m ≤ 1048576 ∧ n ≤ 524288 ∧ m ≤ 524288 ∧ memB m zm = true) :
    Calls Try.prog 3 #[.slice a0 n c0, .slice a1 m c1] w fun e w' => e = .returned (.bool true) ∧ Below w.heap.size w w' := by
  obtain ⟨hs, hn, hm, hmem⟩ := h
  have hm2 : 2 ≤ m := by simp [memB] at hmem; exact hmem.1
  have hc := member_any a1 m c1 zm w hr1
  rw [hmem] at hc
  have HC : Hid (Calls Try.prog 7 #[.slice a1 m c1] w fun e w' => e = .returned (.bool true) ∧ w' = w) := hc
  have HR0 : Hid (Rd w a0 n zb) := hr0
  have HR1 : Hid (Rd w a1 m zm) := hr1
  have H0 : Hid (a0 = none → n = 0) := h0
  have H1 : Hid (a1 = none → m = 0) := h1
  clear hc hmem hr0 hr1 h0 h1
  have hn' : ¬ (524288 : Int) < (n : Int) := by omega
  have hm' : ¬ (524288 : Int) < (m : Int) := by omega
  have kc := fun (w : World) (C : Array Value) (n c : Nat) => Lib.run_convert_bytes_const (P := Try.prog) w 22 5 C n c Try.underlying22 Try.underlying5
  go_enter Try.func3, Try.ntmps3
  go_wp2_with fail
  refine (bytes6_yes _ _ _ _ _ _ _ hs).mono ?_
  rintro e w' ⟨rfl, rfl⟩
  go_wp2_with fail
  refine HC.out.mono ?_
  rintro e w' ⟨rfl, rfl⟩
  go_wp2_with fail
  refine (clone_any _ _ _ zb _ HR0.out (by omega) H0.out).mono ?_
  rintro e w1 ⟨b1, rfl, hrb1, hbn1, hb1⟩
  have RB1 : Hid (Rd w1 b1 n zb) := hrb1
  have BN1 : Hid (b1 = none → n = 0) := hbn1
  have RM1 : Hid (Rd w1 a1 m zm) := HR1.out.below hb1
  have B1 : Hid (Below w'.heap.size w' w1) := hb1
  clear hrb1 hbn1 hb1
  go_wp2_with fail
  refine (clone_any _ _ _ zm _ RM1.out (by omega) H1.out).mono ?_
  rintro e w2 ⟨m2, rfl, hrm2, hmn2, hb2⟩
  have RB2 : Hid (Rd w2 b1 n zb) := RB1.out.below hb2
  have RM2 : Hid (Rd w2 m2 m zm) := hrm2
  have MN2 : Hid (m2 = none → m = 0) := hmn2
  have B2 : Hid (Below w'.heap.size w' w2) := Below.on B1.out hb2 (Nat.le_refl _)
  clear hrm2 hmn2 hb2 RB1 RM1 B1
  -- wantInner := joinBytes(m, the closing brace)
  have hlit : Below w2.heap.size w2 (w2.alloc (.cells #[.int .u8 125] 5 (1, 2))) := (Below.refl _ _).alloc (Nat.le_refl _) _
  have hRlit : Rd (w2.alloc (.cells #[.int .u8 125] 5 (1, 2))) (some ⟨w2.heap.size, 0, none⟩) 1 [125] := by
    refine ⟨rfl, fun i hi => ⟨w2.heap.size, 0, rfl, ?_⟩⟩
    obtain rfl : i = 0 := by omega
    rw [World.cell?_alloc_mark]; rfl
  have RL : Hid (Rd (w2.alloc (.cells #[.int .u8 125] 5 (1, 2))) (some ⟨w2.heap.size, 0, none⟩) 1 [125]) := hRlit
  have RB2' : Hid (Rd (w2.alloc (.cells #[.int .u8 125] 5 (1, 2))) b1 n zb) := RB2.out.below hlit
  have RM2' : Hid (Rd (w2.alloc (.cells #[.int .u8 125] 5 (1, 2))) m2 m zm) := RM2.out.below hlit
  have B2' : Hid (Below w'.heap.size w' (w2.alloc (.cells #[.int .u8 125] 5 (1, 2)))) := Below.on B2.out hlit (Nat.le_refl _)
  clear hlit hRlit RB2 RM2 B2
  go_wp2_with fail
  refine (join_any _ _ _ zm _ _ _ [125] _ RM2'.out RL.out (by omega) (by omega)).mono ?_
  rintro e w3 ⟨rfl, ho3, hb3⟩
  obtain ⟨i3, hi3⟩ : ∃ i3, i3 = (some ⟨(w2.alloc (.cells #[.int .u8 125] 5 (1, 2))).heap.size, 0, none⟩ : Option Addr) := ⟨_, rfl⟩
  rw [← hi3] at ho3 ⊢
  have RI3 : Hid (Rd w3 i3 (m + 1) (zm ++ [125])) := Rd.ofOwns ho3
  have RB3 : Hid (Rd w3 b1 n zb) := RB2'.out.below hb3
  have RM3 : Hid (Rd w3 m2 m zm) := RM2'.out.below hb3
  have B3 : Hid (Below w'.heap.size w' w3) := Below.on B2'.out hb3 (Nat.le_refl _)
  clear ho3 hb3 hi3 RL RB2' RM2' B2'
  -- wantOuter := joinBytes(b, wantInner)
  go_wp2_with fail
  refine (join_any _ _ _ zb _ _ _ (zm ++ [125]) _ RB3.out RI3.out (by omega) (by omega)).mono ?_
  rintro e w4 ⟨rfl, ho4, hb4⟩
  obtain ⟨o4, ho4'⟩ : ∃ o4, o4 = (some ⟨w3.heap.size, 0, none⟩ : Option Addr) := ⟨_, rfl⟩
  rw [← ho4'] at ho4 ⊢
  have RO4 : Hid (Rd w4 o4 (n + (m + 1)) (zb ++ (zm ++ [125]))) := Rd.ofOwns ho4
  have RI4 : Hid (Rd w4 i3 (m + 1) (zm ++ [125])) := RI3.out.below hb4
  have RB4 : Hid (Rd w4 b1 n zb) := RB3.out.below hb4
  have RM4 : Hid (Rd w4 m2 m zm) := RM3.out.below hb4
  have B4 : Hid (Below w'.heap.size w' w4) := Below.on B3.out hb4 (Nat.le_refl _)
  clear ho4 hb4 ho4' RI3 RB3 RM3 B3
  -- outer := ZZObjectAt(joinBytes(b, m), len(b))
  go_wp2_with fail
  refine (join_any _ _ _ zb _ _ _ zm _ RB4.out RM4.out (by omega) (by omega)).mono ?_
  rintro e w5 ⟨rfl, ho5, hb5⟩
  obtain ⟨u5, hu5⟩ : ∃ u5, u5 = (some ⟨w4.heap.size, 0, none⟩ : Option Addr) := ⟨_, rfl⟩
  have hun5 : u5 ≠ none := by rw [hu5]; simp
  have UN : Hid (u5 = none → n + m = 0) := fun h => absurd h hun5
  rw [← hu5] at ho5 ⊢
  have RU5 : Hid (Rd w5 u5 (n + m) (zb ++ zm)) := Rd.ofOwns ho5
  have RO5 : Hid (Rd w5 o4 (n + (m + 1)) (zb ++ (zm ++ [125]))) := RO4.out.below hb5
  have RI5 : Hid (Rd w5 i3 (m + 1) (zm ++ [125])) := RI4.out.below hb5
  have RB5 : Hid (Rd w5 b1 n zb) := RB4.out.below hb5
  have RM5 : Hid (Rd w5 m2 m zm) := RM4.out.below hb5
  have B5 : Hid (Below w'.heap.size w' w5) := Below.on B4.out hb5 (Nat.le_refl _)
  clear ho5 hb5 hu5 hun5 RO4 RI4 RB4 RM4 B4
  go_wp2_with fail
  refine (object_at _ _ _ _ _).mono ?_
  rintro e w6 ⟨g, rfl, hg0, hg1, hg2, hb6⟩
  have G0 : Hid (w6.cell? ⟨g, 0, none⟩ = some (.slice u5 (n + m) (n + m))) := hg0
  have G1 : Hid (w6.cell? ⟨g, 1, none⟩ = some (.int .i64 n)) := hg1
  have G2 : Hid (w6.cell? ⟨g, 2, none⟩ = some .nilIface) := hg2
  have RU6 : Hid (Rd w6 u5 (n + m) (zb ++ zm)) := RU5.out.below hb6
  have RO6 : Hid (Rd w6 o4 (n + (m + 1)) (zb ++ (zm ++ [125]))) := RO5.out.below hb6
  have RI6 : Hid (Rd w6 i3 (m + 1) (zm ++ [125])) := RI5.out.below hb6
  have RB6 : Hid (Rd w6 b1 n zb) := RB5.out.below hb6
  have RM6 : Hid (Rd w6 m2 m zm) := RM5.out.below hb6
  have B6 : Hid (Below w'.heap.size w' w6) := Below.on B5.out hb6 (Nat.le_refl _)
  clear hg0 hg1 hg2 hb6 RU5 RO5 RI5 RB5 RM5 B5
  -- inner := ZZObjectAt(cloneBytes(m), 0)
  go_wp2_with fail
  refine (clone_any _ _ _ zm _ RM6.out (by omega) MN2.out).mono ?_
  rintro e w7 ⟨v7, rfl, hrv7, hvn7, hb7⟩
  have RV7 : Hid (Rd w7 v7 m zm) := hrv7
  have VN7 : Hid (v7 = none → m = 0) := hvn7
  have G0' : Hid (w7.cell? ⟨g, 0, none⟩ = some (.slice u5 (n + m) (n + m))) := cell_on G0.out hb7
  have G1' : Hid (w7.cell? ⟨g, 1, none⟩ = some (.int .i64 n)) := cell_on G1.out hb7
  have G2' : Hid (w7.cell? ⟨g, 2, none⟩ = some .nilIface) := cell_on G2.out hb7
  have RU7 : Hid (Rd w7 u5 (n + m) (zb ++ zm)) := RU6.out.below hb7
  have RO7 : Hid (Rd w7 o4 (n + (m + 1)) (zb ++ (zm ++ [125]))) := RO6.out.below hb7
  have RI7 : Hid (Rd w7 i3 (m + 1) (zm ++ [125])) := RI6.out.below hb7
  have RB7 : Hid (Rd w7 b1 n zb) := RB6.out.below hb7
  have B7 : Hid (Below w'.heap.size w' w7) := Below.on B6.out hb7 (Nat.le_refl _)
  clear hrv7 hvn7 hb7 G0 G1 G2 RU6 RO6 RI6 RB6 RM6 B6
  go_wp2_with fail
  refine (object_at _ _ _ _ _).mono ?_
  rintro e w8 ⟨k, rfl, hk0, hk1, hk2, hb8⟩
  have K0 : Hid (w8.cell? ⟨k, 0, none⟩ = some (.slice v7 m m)) := hk0
  have K1 : Hid (w8.cell? ⟨k, 1, none⟩ = some (.int .i64 0)) := hk1
  have K2 : Hid (w8.cell? ⟨k, 2, none⟩ = some .nilIface) := hk2
  have G0 : Hid (w8.cell? ⟨g, 0, none⟩ = some (.slice u5 (n + m) (n + m))) := cell_on G0'.out hb8
  have G1 : Hid (w8.cell? ⟨g, 1, none⟩ = some (.int .i64 n)) := cell_on G1'.out hb8
  have G2 : Hid (w8.cell? ⟨g, 2, none⟩ = some .nilIface) := cell_on G2'.out hb8
  have RV8 : Hid (Rd w8 v7 m zm) := RV7.out.below hb8
  have RU8 : Hid (Rd w8 u5 (n + m) (zb ++ zm)) := RU7.out.below hb8
  have RO8 : Hid (Rd w8 o4 (n + (m + 1)) (zb ++ (zm ++ [125]))) := RO7.out.below hb8
  have RI8 : Hid (Rd w8 i3 (m + 1) (zm ++ [125])) := RI7.out.below hb8
  have RB8 : Hid (Rd w8 b1 n zb) := RB7.out.below hb8
  have B8 : Hid (Below w'.heap.size w' w8) := Below.on B7.out hb8 (Nat.le_refl _)
  clear hk0 hk1 hk2 hb8 G0' G1' G2' RV7 RU7 RO7 RI7 RB7 B7
  -- o1, e1 := outer.End()
  go_wp2_with fail
  refine (end_any g (n + m) u5 n (zb ++ zm) _ G0.out G1.out G2.out (by simp; omega) RU8.out UN.out (by omega)).mono ?_
  rintro e w9 ⟨p9, c9, rfl, hr9, hb9⟩
  have RP9 : Hid (Rd w9 p9 (n + m + 1) (zb ++ zm ++ [125])) := hr9
  have K0' : Hid (w9.cell? ⟨k, 0, none⟩ = some (.slice v7 m m)) := cell_on K0.out hb9
  have K1' : Hid (w9.cell? ⟨k, 1, none⟩ = some (.int .i64 0)) := cell_on K1.out hb9
  have K2' : Hid (w9.cell? ⟨k, 2, none⟩ = some .nilIface) := cell_on K2.out hb9
  have RV9 : Hid (Rd w9 v7 m zm) := RV8.out.below hb9
  have RO9 : Hid (Rd w9 o4 (n + (m + 1)) (zb ++ (zm ++ [125]))) := RO8.out.below hb9
  have RI9 : Hid (Rd w9 i3 (m + 1) (zm ++ [125])) := RI8.out.below hb9
  have RB9 : Hid (Rd w9 b1 n zb) := RB8.out.below hb9
  have B9 : Hid (Below w'.heap.size w' w9) := Below.on B8.out hb9 (Nat.le_refl _)
  clear hr9 hb9 K0 K1 K2 G0 G1 G2 RV8 RU8 RO8 RI8 RB8 B8
  -- o2, e2 := inner.End()
  go_wp2_with fail
  refine (end_any k m v7 0 zm _ K0'.out K1'.out K2'.out (by simp; omega) RV9.out VN7.out (by omega)).mono ?_
  rintro e w10 ⟨q10, c10, rfl, hr10, hb10⟩
  have RQ10 : Hid (Rd w10 q10 (m + 1) (zm ++ [125])) := hr10
  have RP10 : Hid (Rd w10 p9 (n + m + 1) (zb ++ zm ++ [125])) := RP9.out.below hb10
  have RO10 : Hid (Rd w10 o4 (n + (m + 1)) (zb ++ (zm ++ [125]))) := RO9.out.below hb10
  have RI10 : Hid (Rd w10 i3 (m + 1) (zm ++ [125])) := RI9.out.below hb10
  have RB10 : Hid (Rd w10 b1 n zb) := RB9.out.below hb10
  have B10 : Hid (Below w'.heap.size w' w10) := Below.on B9.out hb10 (Nat.le_refl _)
  clear hr10 hb10 K0' K1' K2' RV9 RP9 RO9 RI9 RB9 B9
  -- the answer
  go_wp2_with fail
  refine (same_eq _ _ _ _ _ _ _ _ _ RQ10.out RI10.out rfl rfl (by omega)).mono ?_
  rintro e w11 ⟨rfl, hb11⟩
  have RQ11 : Hid (Rd w11 q10 (m + 1) (zm ++ [125])) := RQ10.out.below hb11
  have RP11 : Hid (Rd w11 p9 (n + m + 1) (zb ++ zm ++ [125])) := RP10.out.below hb11
  have RO11 : Hid (Rd w11 o4 (n + (m + 1)) (zb ++ (zm ++ [125]))) := RO10.out.below hb11
  have RB11 : Hid (Rd w11 b1 n zb) := RB10.out.below hb11
  have B11 : Hid (Below w'.heap.size w' w11) := Below.on B10.out hb11 (Nat.le_refl _)
  clear hb11 RQ10 RP10 RO10 RI10 RB10 B10
  go_wp2_with fail
  refine (same_eq _ _ _ _ _ _ _ _ _ RP11.out RO11.out (by omega) (by simp) (by omega)).mono ?_
  rintro e w12 ⟨rfl, hb12⟩
  have RQ12 : Hid (Rd w12 q10 (m + 1) (zm ++ [125])) := RQ11.out.below hb12
  have RP12 : Hid (Rd w12 p9 (n + m + 1) (zb ++ zm ++ [125])) := RP11.out.below hb12
  have RB12 : Hid (Rd w12 b1 n zb) := RB11.out.below hb12
  have B12 : Hid (Below w'.heap.size w' w12) := Below.on B11.out hb12 (Nat.le_refl _)
  clear hb12 RQ11 RP11 RO11 RB11 B11
  go_wp2_with fail
  refine (join_any _ _ _ zb _ _ _ (zm ++ [125]) _ RB12.out RQ12.out (by omega) (by omega)).mono ?_
  rintro e w13 ⟨rfl, ho13, hb13⟩
  have RJ13 : Hid (Rd w13 (some ⟨w12.heap.size, 0, none⟩) (n + (m + 1)) (zb ++ (zm ++ [125]))) := Rd.ofOwns ho13
  have RP13 : Hid (Rd w13 p9 (n + m + 1) (zb ++ zm ++ [125])) := RP12.out.below hb13
  have B13 : Hid (Below w'.heap.size w' w13) := Below.on B12.out hb13 (Nat.le_refl _)
  clear ho13 hb13 RQ12 RP12 RB12 B12
  go_wp2_with fail
  refine (same_eq _ _ _ _ _ _ _ _ _ RP13.out RJ13.out (by omega) (by simp) (by omega)).mono ?_
  rintro e w14 ⟨rfl, hb14⟩
  have B14 : Hid (Below w'.heap.size w' w14) := Below.on B13.out hb14 (Nat.le_refl _)
  clear hb14 RP13 RJ13 B13
  go_wp2
  go_ret
  exact ⟨rfl, B14.out⟩

end Go.Proofs.Qxb6616431a
