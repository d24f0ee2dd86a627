/-
  The law FnExceptionTextNamesMembersOrNameAlone (function 4), out of its callees' contracts.
-/
import Derived.Test.Qxb6616431aFresh
import Derived.Test.Qxb6616431aDropLaw
namespace Go.Proofs.Qxb6616431a
open Go.RowKit

set_option maxHeartbeats 400000 in
theorem law4_early (s : ByteArray) (a1 : Option Addr) (m c1 : Nat) (zm : List Int) (w : World) (hr1 : Rd w a1 m zm)
    (h : ¬ (s.size + m ≤ 1048576 ∧ s.size ≤ 524288 ∧ m ≤ 524288 ∧ (m = 0 ∨ memB m zm = true))) :
    Calls Try.prog 4 #[.string s, .slice a1 m c1] w fun e w' => e = .returned (.bool true) ∧ Below w.heap.size w w' := by
  by_cases h1 : s.size + m ≤ 1048576
  · by_cases h2 : (524288 : Int) < (s.size : Int)
    · go_enter Try.func4, Try.ntmps4
      go_wp2_with fail
      refine (bytes13_yes _ _ _ _ _ h1).mono ?_
      rintro e w' ⟨rfl, rfl⟩
      go_wp2
      go_ret
      exact ⟨rfl, Below.refl _ _⟩
    · by_cases h3 : (524288 : Int) < (m : Int)
      · go_enter Try.func4, Try.ntmps4
        go_wp2_with fail
        refine (bytes13_yes _ _ _ _ _ h1).mono ?_
        rintro e w' ⟨rfl, rfl⟩
        go_wp2
        go_ret
        exact ⟨rfl, Below.refl _ _⟩
      · have h4 : memB m zm = false := by
          cases hh : memB m zm
          · rfl
          · exact absurd ⟨h1, by omega, by omega, .inr hh⟩ h
        have hm0 : ¬ m = 0 := fun h0 => h ⟨h1, by omega, by omega, .inl h0⟩
        have hm0' : ((m : Int) != 0) = true := by simp [hm0]
        have hc := member_any a1 m c1 zm w hr1
        rw [h4] at hc
        have HC : Hid (Calls Try.prog 7 #[.slice a1 m c1] w fun e w' => e = .returned (.bool false) ∧ w' = w) := hc
        clear hc h4 h
        go_enter Try.func4, Try.ntmps4
        go_wp2_with fail
        refine (bytes13_yes _ _ _ _ _ h1).mono ?_
        rintro e w' ⟨rfl, rfl⟩
        go_wp2_with fail
        refine HC.out.mono ?_
        rintro e w' ⟨rfl, rfl⟩
        go_wp2
        go_ret
        exact ⟨rfl, Below.refl _ _⟩
  · go_enter Try.func4, Try.ntmps4
    go_wp2_with fail
    refine (bytes13_no _ _ _ _ _ h1).mono ?_
    rintro e w' ⟨rfl, rfl⟩
    go_wp2
    go_ret
    exact ⟨rfl, Below.refl _ _⟩

set_option maxHeartbeats 1000000 in
theorem law4_empty (s : ByteArray) (a1 : Option Addr) (c1 : Nat) (zm : List Int) (w : World) (hr1 : Rd w a1 0 zm)
    (hs : s.size ≤ 524288) :
    Calls Try.prog 4 #[.string s, .slice a1 0 c1] w fun e w' => e = .returned (.bool true) ∧ Below w.heap.size w w' := by
  have HR1 : Hid (Rd w a1 0 zm) := hr1
  have hn' : ¬ (524288 : Int) < (s.size : Int) := by omega
  clear hr1
  go_enter Try.func4, Try.ntmps4
  go_wp2_with fail
  refine (bytes13_yes _ _ _ _ _ (by omega)).mono ?_
  rintro e w' ⟨rfl, rfl⟩
  go_wp2_with fail
  refine (clone_any _ _ _ zm _ HR1.out (by omega) (fun _ => rfl)).mono ?_
  rintro e w2 ⟨m2, rfl, hrm2, hmn2, hb2⟩
  have B2 : Hid (Below w'.heap.size w' w2) := hb2
  clear hrm2 hmn2 hb2
  go_wp2_with fail
  refine (fresh_at _).mono ?_
  rintro e w3 ⟨rfl, hb3⟩
  have B3 : Hid (Below w'.heap.size w' w3) := Below.on B2.out hb3 (Nat.le_refl _)
  clear hb3 B2
  go_wp2_with fail
  have hal : Below w3.heap.size w3 (w3.alloc (.cells #[.slice none 0 0, .int .i64 0, .nilIface] 35)) := (Below.refl _ _).alloc (Nat.le_refl _) _
  have B3' : Hid (Below w'.heap.size w' (w3.alloc (.cells #[.slice none 0 0, .int .i64 0, .nilIface] 35))) := Below.on B3.out hal (Nat.le_refl _)
  clear hal
  refine (exc_fresh s w3.heap.size _ (by simp) (by simp) (by simp)).mono ?_
  rintro e w4 ⟨rfl, hb4⟩
  have B4 : Hid (Below w'.heap.size w' w4) := Below.on B3'.out hb4 (Nat.le_refl _)
  clear hb4 B3 B3'
  go_wp2
  go_ret
  exact ⟨rfl, B4.out⟩

set_option maxHeartbeats 1000000 in
theorem law4_main (s : ByteArray) (a1 : Option Addr) (m c1 : Nat) (zm : List Int) (w : World) (hr1 : Rd w a1 m zm) (h1 : a1 = none → m = 0)
    (h : s.size + m ≤ 1048576 ∧ s.size ≤ 524288 ∧ m ≤ 524288 ∧ memB m zm = true) :
    Calls Try.prog 4 #[.string s, .slice a1 m c1] w fun e w' => e = .returned (.bool true) ∧ Below w.heap.size w w' := by
  obtain ⟨hs, hn, hm, hmem⟩ := h
  have hm2 : 2 ≤ m := by simp [memB] at hmem; exact hmem.1
  have hm0 : ((m : Int) != 0) = true := by simp; omega
  have hm1 : ((m : Int) == 0) = false := by simp; omega
  have hc := member_any a1 m c1 zm w hr1
  rw [hmem] at hc
  have HC : Hid (Calls Try.prog 7 #[.slice a1 m c1] w fun e w' => e = .returned (.bool true) ∧ w' = w) := hc
  have HR1 : Hid (Rd w a1 m zm) := hr1
  have H1 : Hid (a1 = none → m = 0) := h1
  clear hc hmem hr1 h1
  have hn' : ¬ (524288 : Int) < (s.size : Int) := by omega
  have hm' : ¬ (524288 : Int) < (m : Int) := by omega
  go_enter Try.func4, Try.ntmps4
  go_wp2_with fail
  refine (bytes13_yes _ _ _ _ _ hs).mono ?_
  rintro e w' ⟨rfl, rfl⟩
  go_wp2_with fail
  refine HC.out.mono ?_
  rintro e w' ⟨rfl, rfl⟩
  go_wp2_with fail
  refine (clone_any _ _ _ zm _ HR1.out (by omega) H1.out).mono ?_
  rintro e w2 ⟨m2, rfl, hrm2, hmn2, hb2⟩
  have RM2 : Hid (Rd w2 m2 m zm) := hrm2
  have MN2 : Hid (m2 = none → m = 0) := hmn2
  have B2 : Hid (Below w'.heap.size w' w2) := hb2
  have hcv : (convert 22 9 (.slice m2 m m)).run Try.prog w2 = .ok (.string (strOfNums zm)) w2 := conv_any hrm2 m
  obtain ⟨d, hd⟩ : ∃ d, d = strOfNums zm := ⟨_, rfl⟩
  obtain ⟨t, ht⟩ : ∃ t, t = s ++ ⟨#[32]⟩ ++ strOfNums (zm ++ [125]) := ⟨_, rfl⟩
  have HT : Hid (s ++ ⟨#[32]⟩ ++ d ++ ⟨#[125]⟩ = t) := by show _ = _; rw [hd, ht]; exact want_eq s zm
  have HT2 : Hid (t = s ++ ⟨#[32]⟩ ++ strOfNums (zm ++ [125])) := ht
  have hds : d.size ≤ 524288 := by rw [hd, strOfNums_size]; have := hrm2.1; omega
  rw [← hd] at hcv
  clear hrm2 hmn2 hb2 hd ht
  -- want, then p := ZZObjectAt(cloneBytes(m), 0)
  go_wp2_with fail
  rw [HT.out]
  clear HT hcv hds
  refine (clone_any _ _ _ zm _ RM2.out (by omega) MN2.out).mono ?_
  rintro e w3 ⟨v3, rfl, hrv3, hvn3, hb3⟩
  have RV3 : Hid (Rd w3 v3 m zm) := hrv3
  have VN3 : Hid (v3 = none → m = 0) := hvn3
  have RM3 : Hid (Rd w3 m2 m zm) := RM2.out.below hb3
  have B3 : Hid (Below w'.heap.size w' w3) := Below.on B2.out hb3 (Nat.le_refl _)
  clear hrv3 hvn3 hb3 RM2 B2
  go_wp2_with fail
  refine (object_at _ _ _ _ _).mono ?_
  rintro e w4 ⟨k, rfl, hk0, hk1, hk2, hb4⟩
  have RM4 : Hid (Rd w4 m2 m zm) := RM3.out.below hb4
  have B4 : Hid (Below w'.heap.size w' w4) := Below.on B3.out hb4 (Nat.le_refl _)
  -- got
  have H : Hid (Calls Try.prog 15 #[.string s, .pointer (some ⟨k, 0, none⟩)] w4 fun e w' => e = .returned (.string t) ∧ Below w4.heap.size w4 w') := by
    rw [HT2.out]
    exact exc_good s k m v3 0 zm w4 hk0 hk1 hk2 (by simp; omega) (RV3.out.below hb4) VN3.out (by omega) hm2 (by omega)
  clear hk0 hk1 hk2 hb4 RM3 B3 RV3
  go_wp2_with fail
  refine H.out.mono ?_
  rintro e w5 ⟨rfl, hb5⟩
  have RM5 : Hid (Rd w5 m2 m zm) := RM4.out.below hb5
  have B5 : Hid (Below w'.heap.size w' w5) := Below.on B4.out hb5 (Nat.le_refl _)
  clear H hb5 RM4 B4
  -- q := ZZObjectAt(cloneBytes(m), 0)
  go_wp2_with fail
  refine (clone_any _ _ _ zm _ RM5.out (by omega) MN2.out).mono ?_
  rintro e w6 ⟨v6, rfl, hrv6, hvn6, hb6⟩
  have RV6 : Hid (Rd w6 v6 m zm) := hrv6
  have VN6 : Hid (v6 = none → m = 0) := hvn6
  have B6 : Hid (Below w'.heap.size w' w6) := Below.on B5.out hb6 (Nat.le_refl _)
  clear hrv6 hvn6 hb6 RM5 B5
  go_wp2_with fail
  refine (object_at _ _ _ _ _).mono ?_
  rintro e w7 ⟨q, rfl, hq0, hq1, hq2, hb7⟩
  have B7 : Hid (Below w'.heap.size w' w7) := Below.on B6.out hb7 (Nat.le_refl _)
  have H : Hid (Calls Try.prog 16 #[.pointer (some ⟨q, 0, none⟩)] w7 fun e w' => ∃ a' c', e = .returned (.tuple #[.slice a' (m + 1) c', .nilIface]) ∧ Rd w' a' (m + 1) (zm ++ [125]) ∧ Below w7.heap.size w7 w') :=
    marshal_good q m v6 0 zm w7 hq0 hq1 hq2 (by simp; omega) (RV6.out.below hb7) VN6.out (by omega)
  clear hq0 hq1 hq2 hb7 RV6 B6
  go_wp2_with fail
  refine H.out.mono ?_
  rintro e w8 ⟨a8, c8, rfl, hr8, hb8⟩
  have B8 : Hid (Below w'.heap.size w' w8) := Below.on B7.out hb8 (Nat.le_refl _)
  have hcv : (convert 22 9 (.slice a8 (m + 1) c8)).run Try.prog w8 = .ok (.string (strOfNums (zm ++ [125]))) w8 := conv_any hr8 c8
  obtain ⟨d, hd⟩ : ∃ d, d = strOfNums (zm ++ [125]) := ⟨_, rfl⟩
  have hbq : (t.toList == (s ++ ⟨#[32]⟩ ++ d).toList) = true := by rw [HT2.out, hd]; exact beq_self_eq_true _
  have hds : d.size ≤ 524289 := by rw [hd, strOfNums_size]; have := hr8.1; omega
  rw [← hd] at hcv
  clear H hr8 hb8 hd B7
  go_wp2
  go_ret
  exact ⟨rfl, B8.out⟩

end Go.Proofs.Qxb6616431a
