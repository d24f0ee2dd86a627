/-
  The law FnAttrScriptMakesOneFreshNodeACall (function 6), out of the contracts.
-/
import Derived.Test.Qxb6618519aSwift
namespace Go.Proofs.Qxb6618519a
open Go.RowKit
set_option linter.unusedVariables false

/-- The slice at 'a' of 'n' strings reads as 'ts'. -/
def RdS (w : World) (a : Option Addr) (n : Nat) (ts : List ByteArray) : Prop :=
  ts.length = n ∧ ∀ i, i < n → ∃ b off, a = some ⟨b, off, none⟩ ∧ w.cell? ⟨b, off + i, none⟩ = some (.string (ts.getD i ByteArray.empty))

theorem RdS.below {w w' : World} {a : Option Addr} {n : Nat} {ts : List ByteArray} (h : RdS w a n ts) (hb : Below w.heap.size w w') : RdS w' a n ts :=
  ⟨h.1, fun i hi => by
    obtain ⟨b, off, ha, hc⟩ := h.2 i hi
    exact ⟨b, off, ha, (hb.cell (p := ⟨b, off + i, none⟩) (World.block_lt_of_cell? w _ hc)).trans hc⟩⟩

/-- The first 'k' texts are short. -/
def ShortS (ts : List ByteArray) (k : Nat) : Prop := ∀ j, j < k → (ts.getD j ByteArray.empty).size ≤ 1048576

theorem short_step {ts : List ByteArray} {k : Nat} (h : ShortS ts k) (h1 : (ts.getD k ByteArray.empty).size ≤ 1048576) : ShortS ts (k + 1) := fun j hj => by
  by_cases e : j = k
  · subst e; exact h1
  · exact h j (by omega)

/-- What the size test's yes says. -/
def Z19 (n : Nat) (s : ByteArray) (ts : List ByteArray) (b : Bool) : Prop := b = true → n ≤ 1048576 ∧ s.size ≤ 1048576 ∧ ShortS ts n

theorem z19_no (n : Nat) (s : ByteArray) (ts : List ByteArray) : Z19 n s ts false := fun h => by cases h

/-- How the size test ends. -/
def Out19 (n : Nat) (s : ByteArray) (ts : List ByteArray) (en : Ending) : Prop := ∃ b, en = .returned (.bool b) ∧ Z19 n s ts b

set_option maxHeartbeats 1000000 in
theorem bytes19 (a : Option Addr) (n c : Nat) (ts : List ByteArray) (s : ByteArray) (i1 i2 i3 i4 : Int) (bd : Bool) (w : World) (hr : RdS w a n ts) :
    Calls Try.prog 19 #[.slice a n c, .string s, .int .i64 i1, .int .i64 i2, .int .i64 i3, .int .i64 i4, .bool bd] w fun en w' => Out19 n s ts en ∧ w' = w := by
  have HR : Hid (RdS w a n ts) := hr
  clear hr
  by_cases h1 : (1048576 : Int) < (n : Int)
  · go_enter Try.func19, Try.ntmps19
    go_wp2
    go_ret
    exact ⟨⟨false, rfl, z19_no _ _ _⟩, rfl⟩
  · go_enter Try.func19, Try.ntmps19
    go_wp2
    go_loop [15, 16] (fun t i => ∃ (j : Nat) (q : Int), j ≤ n ∧ i = .int .i64 j ∧ 0 ≤ q ∧ q ≤ 1048576 ∧ t = .int .i64 q ∧ Hid (ShortS ts j)) (fun _ i => n - (intOf i).toNat)
    case atStart => exact ⟨0, n, Nat.zero_le _, rfl, by omega, by omega, by go_num, fun j hj => by omega⟩
    case round =>
      obtain ⟨j, q, hj, rfl, hq0, hq1, rfl, HSM⟩ := hrel
      by_cases hlt : j < n
      · obtain ⟨b, off, hx, hc⟩ := HR.out.2 j hlt
        obtain ⟨y, hy⟩ : ∃ y, ts.getD j ByteArray.empty = y := ⟨_, rfl⟩
        rw [hy] at hc
        have HY : Hid (ts.getD j ByteArray.empty = y) := hy
        clear hy
        cases hx
        by_cases hy0 : (1048576 : Int) < (y.size : Int)
        · go_wp2
          go_ret
          exact ⟨⟨false, rfl, z19_no _ _ _⟩, rfl⟩
        · by_cases hy1 : (1048576 : Int) < q + (y.size : Int)
          · go_wp2
            go_ret
            exact ⟨⟨false, rfl, z19_no _ _ _⟩, rfl⟩
          · go_wp2
            go_round
            case rel => exact ⟨j + 1, q + (y.size : Int), by omega, by go_num, by omega, by omega, rfl, short_step HSM.out (by rw [HY.out]; omega)⟩
            case measure => simp [intOf]; omega
      · have e : j = n := by omega
        subst e
        by_cases hs0 : (1048576 : Int) < (s.size : Int)
        · go_wp2
          go_ret
          exact ⟨⟨false, rfl, z19_no _ _ _⟩, rfl⟩
        · by_cases hs1 : (1048576 : Int) < q + (s.size : Int)
          · go_wp2
            go_ret
            exact ⟨⟨false, rfl, z19_no _ _ _⟩, rfl⟩
          · go_wp2
            go_ret
            exact ⟨⟨true, rfl, fun _ => ⟨by omega, by omega, HSM.out⟩⟩, rfl⟩

set_option maxRecDepth 100000 in
set_option maxHeartbeats 4000000 in
theorem law6 (a : Option Addr) (n c : Nat) (ts : List ByteArray) (s : ByteArray) (depth st hd mh : Int) (bd : Bool) (w : World) (hr : RdS w a n ts)
    (hst : st ≤ 9223372036854775807) (hhd : hd ≤ 9223372036854775807) (hmh : mh ≤ 9223372036854775807) (hmh' : -9223372036854775808 ≤ mh) :
    Calls Try.prog 6 #[.slice a n c, .string s, .int .i64 depth, .int .i64 st, .int .i64 hd, .int .i64 mh, .bool bd] w fun en w' => en = .returned (.bool true) ∧ Below w.heap.size w w' := by
  have HR : Hid (RdS w a n ts) := hr
  clear hr
  go_enter Try.func6, Try.ntmps6
  go_wp2_with fail
  refine (bytes19 a n c ts s depth st hd mh bd w HR.out).mono ?_
  rintro en w' ⟨⟨b, rfl, hz⟩, rfl⟩
  cases b with
  | false =>
    clear hz
    go_wp2
    go_ret
    exact ⟨rfl, Below.refl _ _⟩
  | true =>
    obtain ⟨hn, hs, hsm⟩ := hz rfl
    have HSM : Hid (ShortS ts n) := hsm
    clear hz hsm
    have hs0 : ¬ (1048576 : Int) < (s.size : Int) := by omega
    go_wp2
    go_loop [15, 16] (fun t i => ∃ (j : Nat) (q : Int), j ≤ n ∧ i = .int .i64 j ∧ 16 * (j : Int) ≤ q ∧ q ≤ 1048576 ∧ t = .int .i64 q) (fun _ i => n - (intOf i).toNat)
    case atStart => exact ⟨0, s.size, Nat.zero_le _, rfl, by omega, by omega, by go_num⟩
    case round =>
      obtain ⟨j, q, hj, rfl, hq0, hq1, rfl⟩ := hrel
      by_cases hlt : j < n
      · obtain ⟨b, off, hx, hc⟩ := HR.out.2 j hlt
        have hy := HSM.out j hlt
        obtain ⟨y, hye⟩ : ∃ y, ts.getD j ByteArray.empty = y := ⟨_, rfl⟩
        rw [hye] at hc hy
        clear hye
        cases hx
        by_cases hy1 : (1048576 : Int) < q + (16 + (y.size : Int))
        · go_wp2
          go_ret
          exact ⟨rfl, Below.refl _ _⟩
        · go_wp2
          go_round
          case rel => exact ⟨j + 1, q + (16 + (y.size : Int)), by omega, by go_num, by omega, by omega, rfl⟩
          case measure => simp [intOf]; omega
      · have e : j = n := by omega
        subst e
        by_cases h1 : st < 0
        · go_wp2
          go_ret
          exact ⟨rfl, Below.refl _ _⟩
        by_cases h2 : 1048576 - (j : Int) < st
        · go_wp2
          go_ret
          exact ⟨rfl, Below.refl _ _⟩
        by_cases h3 : hd < 0
        · go_wp2
          go_ret
          exact ⟨rfl, Below.refl _ _⟩
        by_cases h4 : mh < hd
        · go_wp2
          go_ret
          exact ⟨rfl, Below.refl _ _⟩
        by_cases h5 : mh - hd < (j : Int)
        · go_wp2
          go_ret
          exact ⟨rfl, Below.refl _ _⟩
        go_wp2_with fail
        refine (new_sw _ _ _ _ _ _ _).mono ?_
        rintro en w1 ⟨g, rfl, hg, hv, hb⟩
        have HV : Hid (BSt w1 g s depth st hd mh bd) := hv
        have HB : Hid (Below w'.heap.size w' w1) := hb
        have HGG : Hid (g = w'.heap.size) := hg
        clear hv hb hg
        go_wp2
        go_loopw [19] (fun i wr => ∃ k : Nat, k ≤ j ∧ i = .int .i64 k ∧ Hid (BSt wr g s depth (st + k) (hd + k) mh bd) ∧ Hid (Below w'.heap.size w' wr)) (fun i _ => j - (intOf i).toNat)
        case atStart => exact ⟨0, Nat.zero_le _, rfl, by simpa using HV, HB⟩
        case round =>
          obtain ⟨k, hk, rfl, HVr, HBr⟩ := hrel
          clear HV HB
          by_cases hlt2 : k < j
          · obtain ⟨b, off, hx, hc⟩ := HR.out.2 k hlt2
            have hbl := World.block_lt_of_cell? w' _ hc
            obtain ⟨y, hye⟩ : ∃ y, ts.getD k ByteArray.empty = y := ⟨_, rfl⟩
            rw [hye] at hc
            have hcr : wr.cell? ⟨b, off + k, none⟩ = some (.string y) := (HBr.out.cell (p := ⟨b, off + k, none⟩) hbl).trans hc
            have HC : Hid (w'.cell? ⟨b, off + k, none⟩ = some (.string y)) := hc
            have HBLK : Hid (b < w'.heap.size) := hbl
            clear hc hye hbl
            cases hx
            go_wp2_with fail
            refine (zz_attr g s y depth (st + k) (hd + k) mh bd _ HVr.out (by omega) (by omega) (by omega) (by omega) hmh).mono ?_
            rintro en w2 ⟨gN, rfl, hn2, hv2, hg2⟩
            have HV2 : Hid (BSt w2 g s depth (st + ((k + 1 : Nat) : Int)) (hd + ((k + 1 : Nat) : Int)) mh bd) := by
              have e1 : st + ((k + 1 : Nat) : Int) = st + (k : Int) + 1 := by omega
              have e2 : hd + ((k + 1 : Nat) : Int) = hd + (k : Int) + 1 := by omega
              rw [e1, e2]; exact hv2
            have HN2 : Hid (NSt w2 gN y) := hn2
            have HB2 : Hid (Below w'.heap.size w' w2) := HBr.out.grown hg2 HBr.out.size (fun i h => by have := HGG.out; simp at h; omega)
            clear hn2 hv2 hg2 HVr HBr hcr
            go_wp2_with fail
            refine (node_fields gN y _ HN2.out).mono ?_
            rintro en w3 ⟨rfl, hb3⟩
            have HB3 : Hid (Below w'.heap.size w' w3) := HB2.out.trans (hb3.mono HB2.out.size)
            have HV3 : Hid (BSt w3 g s depth (st + ((k + 1 : Nat) : Int)) (hd + ((k + 1 : Nat) : Int)) mh bd) := by
              have := hb3.block g (lt_of_block HV2.out)
              exact this.trans HV2.out
            have hc3 : w3.cell? ⟨b, off + k, none⟩ = some (.string y) := (HB3.out.cell (p := ⟨b, off + k, none⟩) HBLK.out).trans HC.out
            clear hb3 HB2 HV2 HN2
            go_wp2
            go_roundw
            case rel => exact ⟨k + 1, by omega, by go_num, HV3, HB3⟩
            case measure => simp [intOf]; omega
          · have ejk : k = j := by omega
            subst ejk
            go_wp2_with fail
            refine (builder_fields g s depth (st + k) (hd + k) mh bd _ HVr.out).mono ?_
            rintro en w2 ⟨rfl, hb2⟩
            have HB2 : Hid (Below w'.heap.size w' w2) := HBr.out.trans (hb2.mono HBr.out.size)
            clear hb2 HVr HBr
            go_wp2
            go_ret
            exact ⟨rfl, HB2.out⟩

end Go.Proofs.Qxb6618519a
