/-
  The law FnV0EnterRaisesDepthByOneACall (function 5), out of the contracts.
-/
import Derived.Test.Qxb6618519aV0
namespace Go.Proofs.Qxb6618519a
open Go.RowKit
set_option linter.unusedVariables false

theorem bytes15_yes (s : ByteArray) (depth : Int) (name : ByteArray) (e f st q b k : Int) (w : World) (h : s.size + name.size ≤ 1048576) :
    Calls Try.prog 15 #[.string s, .int .i64 depth, .string name, .int .i64 e, .int .i64 f, .int .i64 st, .int .i64 q, .int .i64 b, .int .i64 k] w fun en w' => en = .returned (.bool true) ∧ w' = w := by
  have h1 : ¬ (1048576 : Int) < (s.size : Int) := by omega
  have h2 : ¬ (1048576 : Int) < (name.size : Int) := by omega
  have h3 : ¬ (1048576 : Int) < (s.size : Int) + (name.size : Int) := by omega
  go_enter Try.func15, Try.ntmps15
  go_wp2
  go_ret
  exact ⟨rfl, rfl⟩

theorem bytes15_no (s : ByteArray) (depth : Int) (name : ByteArray) (e f st q b k : Int) (w : World) (h : ¬ s.size + name.size ≤ 1048576) :
    Calls Try.prog 15 #[.string s, .int .i64 depth, .string name, .int .i64 e, .int .i64 f, .int .i64 st, .int .i64 q, .int .i64 b, .int .i64 k] w fun en w' => en = .returned (.bool false) ∧ w' = w := by
  by_cases h1 : (1048576 : Int) < (s.size : Int)
  · go_enter Try.func15, Try.ntmps15
    go_wp2
    go_ret
    exact ⟨rfl, rfl⟩
  · by_cases h2 : (1048576 : Int) < (name.size : Int)
    · go_enter Try.func15, Try.ntmps15
      go_wp2
      go_ret
      exact ⟨rfl, rfl⟩
    · have h3 : (1048576 : Int) < (s.size : Int) + (name.size : Int) := by omega
      go_enter Try.func15, Try.ntmps15
      go_wp2
      go_ret
      exact ⟨rfl, rfl⟩

set_option maxRecDepth 100000 in
set_option maxHeartbeats 2000000 in
theorem law5_main (s : ByteArray) (depth : Int) (name : ByteArray) (e f st q b : Int) (k : Nat) (w : World) (h0 : s.size + name.size ≤ 1048576)
    (h1 : ¬ (524288 : Int) < (s.size : Int)) (h2 : ¬ (524288 : Int) < (name.size : Int)) (h4 : ¬ (65536 : Int) < (k : Int)) (h5 : ¬ depth < 0) (h6 : ¬ 512 - (k : Int) < depth)
    (h7 : ¬ e < (s.size : Int)) (h8 : ¬ (name.size : Int) < e) (h9 : ¬ f < 0) (h10 : ¬ e - (s.size : Int) < f) (h11 : ¬ st < 0) (h12 : ¬ 1048576 - (e - (s.size : Int) - f) < st) :
    Calls Try.prog 5 #[.string s, .int .i64 depth, .string name, .int .i64 e, .int .i64 f, .int .i64 st, .int .i64 q, .int .i64 b, .int .i64 k] w fun en w' => en = .returned (.bool true) ∧ Below w.heap.size w w' := by
  go_enter Try.func5, Try.ntmps5
  go_wp2_with fail
  refine (bytes15_yes _ _ _ _ _ _ _ _ _ _ h0).mono ?_
  rintro en w' ⟨rfl, rfl⟩
  go_wp2_with fail
  refine (new_v0 _ _ _ _ _ _ _ _ _).mono ?_
  rintro en w1 ⟨g, rfl, hg, hv, hb⟩
  have HV : Hid (VSt w1 g s depth name e f st q b) := hv
  have HB : Hid (Below w'.heap.size w' w1) := hb
  have HGG : Hid (g = w'.heap.size) := hg
  clear hv hb hg
  go_wp2
  go_loopw [20] (fun i wr => ∃ j : Nat, j ≤ k ∧ i = .int .i64 j ∧ Hid (VSt wr g s (depth + j) name e f st q b) ∧ Hid (Below w'.heap.size w' wr)) (fun i _ => k - (intOf i).toNat)
  case atStart => exact ⟨0, Nat.zero_le _, rfl, by simpa using HV, HB⟩
  case round =>
    obtain ⟨j, hj, rfl, HVr, HBr⟩ := hrel
    clear HV HB
    by_cases hlt : j < k
    · go_wp2_with fail
      refine (zz_enter g s (depth + j) name e f st q b _ HVr.out (by omega) (by omega) (by omega) (by omega) (by omega) (by omega) (by omega) (by omega) (by omega)).mono ?_
      rintro en w2 ⟨rfl, hv2, hg2⟩
      have HV2 : Hid (VSt w2 g s (depth + ((j + 1 : Nat) : Int)) name e f st q b) := by
        have e1 : depth + ((j + 1 : Nat) : Int) = depth + (j : Int) + 1 := by omega
        rw [e1]; exact hv2
      have HB2 : Hid (Below w'.heap.size w' w2) := HBr.out.grown hg2 HBr.out.size (fun i h => by have := HGG.out; simp at h; omega)
      clear hv2 hg2 HVr HBr
      go_wp2
      go_roundw
      case rel => exact ⟨j + 1, by omega, by go_num, HV2, HB2⟩
      case measure => simp [intOf]; omega
    · have ejk : j = k := by omega
      subst ejk
      go_wp2_with fail
      refine (fields_any g s (depth + j) name e f st q b _ HVr.out).mono ?_
      rintro en w2 ⟨rfl, hb2⟩
      have HB2 : Hid (Below w'.heap.size w' w2) := HBr.out.trans (hb2.mono HBr.out.size)
      clear hb2 HVr HBr
      go_wp2
      go_ret
      exact ⟨rfl, HB2.out⟩

set_option maxRecDepth 100000 in
set_option maxHeartbeats 4000000 in
theorem law5 (s : ByteArray) (depth : Int) (name : ByteArray) (e f st q b k : Int) (w : World)
    (hk : k ≤ 9223372036854775807) (hk' : -9223372036854775808 ≤ k) (hd : depth ≤ 9223372036854775807) (he : e ≤ 9223372036854775807) (he' : -9223372036854775808 ≤ e) (hf : f ≤ 9223372036854775807) (hst : st ≤ 9223372036854775807) :
    Calls Try.prog 5 #[.string s, .int .i64 depth, .string name, .int .i64 e, .int .i64 f, .int .i64 st, .int .i64 q, .int .i64 b, .int .i64 k] w fun en w' => en = .returned (.bool true) ∧ Below w.heap.size w w' := by
  by_cases h0 : s.size + name.size ≤ 1048576
  · by_cases h1 : (524288 : Int) < (s.size : Int)
    · go_enter Try.func5, Try.ntmps5
      go_wp2_with fail
      refine (bytes15_yes _ _ _ _ _ _ _ _ _ _ h0).mono ?_
      rintro en w' ⟨rfl, rfl⟩
      go_wp2
      go_ret
      exact ⟨rfl, Below.refl _ _⟩
    · by_cases h2 : (524288 : Int) < (name.size : Int)
      · go_enter Try.func5, Try.ntmps5
        go_wp2_with fail
        refine (bytes15_yes _ _ _ _ _ _ _ _ _ _ h0).mono ?_
        rintro en w' ⟨rfl, rfl⟩
        go_wp2
        go_ret
        exact ⟨rfl, Below.refl _ _⟩
      · by_cases h3 : k < 0
        · go_enter Try.func5, Try.ntmps5
          go_wp2_with fail
          refine (bytes15_yes _ _ _ _ _ _ _ _ _ _ h0).mono ?_
          rintro en w' ⟨rfl, rfl⟩
          go_wp2
          go_ret
          exact ⟨rfl, Below.refl _ _⟩
        · by_cases h4 : (65536 : Int) < k
          · go_enter Try.func5, Try.ntmps5
            go_wp2_with fail
            refine (bytes15_yes _ _ _ _ _ _ _ _ _ _ h0).mono ?_
            rintro en w' ⟨rfl, rfl⟩
            go_wp2
            go_ret
            exact ⟨rfl, Below.refl _ _⟩
          · by_cases h5 : depth < 0
            · go_enter Try.func5, Try.ntmps5
              go_wp2_with fail
              refine (bytes15_yes _ _ _ _ _ _ _ _ _ _ h0).mono ?_
              rintro en w' ⟨rfl, rfl⟩
              go_wp2
              go_ret
              exact ⟨rfl, Below.refl _ _⟩
            · by_cases h6 : 512 - k < depth
              · go_enter Try.func5, Try.ntmps5
                go_wp2_with fail
                refine (bytes15_yes _ _ _ _ _ _ _ _ _ _ h0).mono ?_
                rintro en w' ⟨rfl, rfl⟩
                go_wp2
                go_ret
                exact ⟨rfl, Below.refl _ _⟩
              · by_cases h7 : e < (s.size : Int)
                · go_enter Try.func5, Try.ntmps5
                  go_wp2_with fail
                  refine (bytes15_yes _ _ _ _ _ _ _ _ _ _ h0).mono ?_
                  rintro en w' ⟨rfl, rfl⟩
                  go_wp2
                  go_ret
                  exact ⟨rfl, Below.refl _ _⟩
                · by_cases h8 : (name.size : Int) < e
                  · go_enter Try.func5, Try.ntmps5
                    go_wp2_with fail
                    refine (bytes15_yes _ _ _ _ _ _ _ _ _ _ h0).mono ?_
                    rintro en w' ⟨rfl, rfl⟩
                    go_wp2
                    go_ret
                    exact ⟨rfl, Below.refl _ _⟩
                  · by_cases h9 : f < 0
                    · go_enter Try.func5, Try.ntmps5
                      go_wp2_with fail
                      refine (bytes15_yes _ _ _ _ _ _ _ _ _ _ h0).mono ?_
                      rintro en w' ⟨rfl, rfl⟩
                      go_wp2
                      go_ret
                      exact ⟨rfl, Below.refl _ _⟩
                    · by_cases h10 : e - (s.size : Int) < f
                      · go_enter Try.func5, Try.ntmps5
                        go_wp2_with fail
                        refine (bytes15_yes _ _ _ _ _ _ _ _ _ _ h0).mono ?_
                        rintro en w' ⟨rfl, rfl⟩
                        go_wp2
                        go_ret
                        exact ⟨rfl, Below.refl _ _⟩
                      · by_cases h11 : st < 0
                        · go_enter Try.func5, Try.ntmps5
                          go_wp2_with fail
                          refine (bytes15_yes _ _ _ _ _ _ _ _ _ _ h0).mono ?_
                          rintro en w' ⟨rfl, rfl⟩
                          go_wp2
                          go_ret
                          exact ⟨rfl, Below.refl _ _⟩
                        · by_cases h12 : 1048576 - (e - (s.size : Int) - f) < st
                          · go_enter Try.func5, Try.ntmps5
                            go_wp2_with fail
                            refine (bytes15_yes _ _ _ _ _ _ _ _ _ _ h0).mono ?_
                            rintro en w' ⟨rfl, rfl⟩
                            go_wp2
                            go_ret
                            exact ⟨rfl, Below.refl _ _⟩
                          · obtain ⟨n, rfl⟩ : ∃ n : Nat, k = (n : Int) := ⟨k.toNat, by omega⟩
                            exact law5_main s depth name e f st q b n w h0 h1 h2 h4 h5 h6 h7 h8 h9 h10 h11 h12
  · go_enter Try.func5, Try.ntmps5
    go_wp2_with fail
    refine (bytes15_no _ _ _ _ _ _ _ _ _ _ h0).mono ?_
    rintro en w' ⟨rfl, rfl⟩
    go_wp2
    go_ret
    exact ⟨rfl, Below.refl _ _⟩

end Go.Proofs.Qxb6618519a
