/-
  The law FnExceptionTextDropsMembersOfFailedObject (function 5), out of its callees' contracts.
-/
import Derived.Test.Qxb6616431aExc
namespace Go.Proofs.Qxb6616431a
open Go.RowKit

set_option maxHeartbeats 400000 in
theorem law5_early (s : ByteArray) (a1 : Option Addr) (m c1 : Nat) (zm : List Int) (w : World) (hr1 : Rd w a1 m zm)
    (h : ¬ (s.size + m ≤ 1048576 ∧ s.size ≤ 524288 ∧ m ≤ 524288 ∧ memB m zm = true)) :
    Calls Try.prog 5 #[.string s, .slice a1 m c1] w fun e w' => e = .returned (.bool true) ∧ Below w.heap.size w w' := by
  by_cases h1 : s.size + m ≤ 1048576
  · by_cases h2 : (524288 : Int) < (s.size : Int)
    · go_enter Try.func5, Try.ntmps5
      go_wp2_with fail
      refine (bytes17_yes _ _ _ _ _ h1).mono ?_
      rintro e w' ⟨rfl, rfl⟩
      go_wp2
      go_ret
      exact ⟨rfl, Below.refl _ _⟩
    · by_cases h3 : (524288 : Int) < (m : Int)
      · go_enter Try.func5, Try.ntmps5
        go_wp2_with fail
        refine (bytes17_yes _ _ _ _ _ h1).mono ?_
        rintro e w' ⟨rfl, rfl⟩
        go_wp2
        go_ret
        exact ⟨rfl, Below.refl _ _⟩
      · have h4 : memB m zm = false := by
          cases hh : memB m zm
          · rfl
          · exact absurd ⟨h1, by omega, by omega, hh⟩ h
        have hc := member_any a1 m c1 zm w hr1
        rw [h4] at hc
        have HC : Hid (Calls Try.prog 7 #[.slice a1 m c1] w fun e w' => e = .returned (.bool false) ∧ w' = w) := hc
        clear hc h4 h
        go_enter Try.func5, Try.ntmps5
        go_wp2_with fail
        refine (bytes17_yes _ _ _ _ _ h1).mono ?_
        rintro e w' ⟨rfl, rfl⟩
        go_wp2_with fail
        refine HC.out.mono ?_
        rintro e w' ⟨rfl, rfl⟩
        go_wp2
        go_ret
        exact ⟨rfl, Below.refl _ _⟩
  · go_enter Try.func5, Try.ntmps5
    go_wp2_with fail
    refine (bytes17_no _ _ _ _ _ h1).mono ?_
    rintro e w' ⟨rfl, rfl⟩
    go_wp2
    go_ret
    exact ⟨rfl, Below.refl _ _⟩

theorem want_eq (s : ByteArray) (zm : List Int) : s ++ ⟨#[32]⟩ ++ strOfNums zm ++ ⟨#[125]⟩ = s ++ ⟨#[32]⟩ ++ strOfNums (zm ++ [125]) := by
  rw [strOfNums_append, ByteArray.append_assoc (a := s ++ ⟨#[32]⟩)]
  rfl

set_option maxHeartbeats 1000000 in
theorem law5_main (s : ByteArray) (a1 : Option Addr) (m c1 : Nat) (zm : List Int) (w : World) (hr1 : Rd w a1 m zm) (h1 : a1 = none → m = 0)
    (h : s.size + m ≤ 1048576 ∧ s.size ≤ 524288 ∧ m ≤ 524288 ∧ memB m zm = true) :
    Calls Try.prog 5 #[.string s, .slice a1 m c1] w fun e w' => e = .returned (.bool true) ∧ Below w.heap.size w w' := by
  obtain ⟨hs, hn, hm, hmem⟩ := h
  have hm2 : 2 ≤ m := by simp [memB] at hmem; exact hmem.1
  have hc := member_any a1 m c1 zm w hr1
  rw [hmem] at hc
  have HC : Hid (Calls Try.prog 7 #[.slice a1 m c1] w fun e w' => e = .returned (.bool true) ∧ w' = w) := hc
  have HR1 : Hid (Rd w a1 m zm) := hr1
  have H1 : Hid (a1 = none → m = 0) := h1
  clear hc hmem hr1 h1
  have hn' : ¬ (524288 : Int) < (s.size : Int) := by omega
  have hm' : ¬ (524288 : Int) < (m : Int) := by omega
  go_enter Try.func5, Try.ntmps5
  go_wp2_with fail
  refine (bytes17_yes _ _ _ _ _ hs).mono ?_
  rintro e w' ⟨rfl, rfl⟩
  go_wp2_with fail
  refine HC.out.mono ?_
  rintro e w' ⟨rfl, rfl⟩
  go_wp2_with fail
  refine (clone_any _ _ _ zm _ HR1.out (by omega) H1.out).mono ?_
  rintro e w2 ⟨m2, rfl, hrm2, hmn2, hb2⟩
  have RM2 : Hid (Rd w2 m2 m zm) := hrm2
  have MN2 : Hid (m2 = none → m = 0) := hmn2
  have B2 : Hid (Below w'.heap.size w' w2) := hb2
  have hcv : (convert 22 9 (.slice m2 m m)).run Try.prog w2 = .ok (.string (strOfNums zm)) w2 := conv_any hrm2 m
  obtain ⟨d, hd⟩ : ∃ d, d = strOfNums zm := ⟨_, rfl⟩
  obtain ⟨t, ht⟩ : ∃ t, t = s ++ ⟨#[32]⟩ ++ strOfNums (zm ++ [125]) := ⟨_, rfl⟩
  have HT : Hid (s ++ ⟨#[32]⟩ ++ d ++ ⟨#[125]⟩ = t) := by show _ = _; rw [hd, ht]; exact want_eq s zm
  have HT2 : Hid (t = s ++ ⟨#[32]⟩ ++ strOfNums (zm ++ [125])) := ht
  have hds : d.size ≤ 524288 := by rw [hd, strOfNums_size]; have := hrm2.1; omega
  rw [← hd] at hcv
  clear hrm2 hmn2 hb2 hd ht
  -- want, then ZZFailedObject(cloneBytes(m))
  go_wp2_with fail
  rw [HT.out]
  clear HT hcv hds
  refine (clone_any _ _ _ zm _ RM2.out (by omega) MN2.out).mono ?_
  rintro e w3 ⟨v3, rfl, hrv3, hvn3, hb3⟩
  have RM3 : Hid (Rd w3 m2 m zm) := RM2.out.below hb3
  have B3 : Hid (Below w'.heap.size w' w3) := Below.on B2.out hb3 (Nat.le_refl _)
  clear hrv3 hvn3 hb3 RM2 B2
  go_wp2_with fail
  refine (failed_at _ _ _ _).mono ?_
  rintro e w4 ⟨g, v, rfl, hg2, hb4⟩
  have G2 : Hid (w4.cell? ⟨g, 2, none⟩ = some (.iface 43 v)) := hg2
  have RM4 : Hid (Rd w4 m2 m zm) := RM3.out.below hb4
  have B4 : Hid (Below w'.heap.size w' w4) := Below.on B3.out hb4 (Nat.le_refl _)
  clear hg2 hb4 RM3 B3
  -- good := ZZObjectAt(cloneBytes(m), 0)
  go_wp2_with fail
  refine (clone_any _ _ _ zm _ RM4.out (by omega) MN2.out).mono ?_
  rintro e w5 ⟨v5, rfl, hrv5, hvn5, hb5⟩
  have RV5 : Hid (Rd w5 v5 m zm) := hrv5
  have VN5 : Hid (v5 = none → m = 0) := hvn5
  have G5 : Hid (w5.cell? ⟨g, 2, none⟩ = some (.iface 43 v)) := cell_on G2.out hb5
  have B5 : Hid (Below w'.heap.size w' w5) := Below.on B4.out hb5 (Nat.le_refl _)
  clear hrv5 hvn5 hb5 RM4 B4 G2
  go_wp2_with fail
  refine (object_at _ _ _ _ _).mono ?_
  rintro e w6 ⟨k, rfl, hk0, hk1, hk2, hb6⟩
  have K0 : Hid (w6.cell? ⟨k, 0, none⟩ = some (.slice v5 m m)) := hk0
  have K1 : Hid (w6.cell? ⟨k, 1, none⟩ = some (.int .i64 0)) := hk1
  have K2 : Hid (w6.cell? ⟨k, 2, none⟩ = some .nilIface) := hk2
  have RV6 : Hid (Rd w6 v5 m zm) := RV5.out.below hb6
  have G6 : Hid (w6.cell? ⟨g, 2, none⟩ = some (.iface 43 v)) := cell_on G5.out hb6
  have B6 : Hid (Below w'.heap.size w' w6) := Below.on B5.out hb6 (Nat.le_refl _)
  clear hk0 hk1 hk2 hb6 RV5 B5 G5
  -- tf
  go_wp2_with fail
  refine (exc_failed _ _ _ _ G6.out).mono ?_
  rintro e w7 ⟨rfl, hb7⟩
  have K0' : Hid (w7.cell? ⟨k, 0, none⟩ = some (.slice v5 m m)) := cell_on K0.out hb7
  have K1' : Hid (w7.cell? ⟨k, 1, none⟩ = some (.int .i64 0)) := cell_on K1.out hb7
  have K2' : Hid (w7.cell? ⟨k, 2, none⟩ = some .nilIface) := cell_on K2.out hb7
  have RV7 : Hid (Rd w7 v5 m zm) := RV6.out.below hb7
  have B7 : Hid (Below w'.heap.size w' w7) := Below.on B6.out hb7 (Nat.le_refl _)
  clear hb7 RV6 B6 G6 K0 K1 K2
  -- tg
  have H : Hid (Calls Try.prog 15 #[.string s, .pointer (some ⟨k, 0, none⟩)] w7 fun e w' => e = .returned (.string t) ∧ Below w7.heap.size w7 w') := by
    rw [HT2.out]
    exact exc_good s k m v5 0 zm w7 K0'.out K1'.out K2'.out (by simp; omega) RV7.out VN5.out (by omega) hm2 (by omega)
  clear HT2 K0' K1' K2'
  go_wp2_with fail
  refine H.out.mono ?_
  rintro e w8 ⟨rfl, hb8⟩
  have B8 : Hid (Below w'.heap.size w' w8) := Below.on B7.out hb8 (Nat.le_refl _)
  clear H hb8 B7
  go_wp2
  go_ret
  exact ⟨rfl, B8.out⟩

end Go.Proofs.Qxb6616431a
