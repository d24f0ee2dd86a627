/-
  (*Object).MarshalJSON (16), ExceptionText (19), ZZExceptionTextOfObject (15): at a good object that has members, and at a failed one.
-/
import Derived.Test.Qxb6616431aTests
namespace Go.Proofs.Qxb6616431a
open Go.RowKit

theorem conv_any {w : World} {a : Option Addr} {n : Nat} {zs : List Int} (h : Rd w a n zs) (c : Nat) :
    (convert 22 9 (.slice a n c)).run Try.prog w = .ok (.string (strOfNums zs)) w := by
  have u9 : Try.prog.underlying 9 = some .string := Try.underlying9
  by_cases hn : 0 < n
  · obtain ⟨b, off, rfl, hc⟩ := h.head hn
    exact run_convert_bytes_arg w 22 5 Try.underlying22 Try.underlying5 b off n c zs h.1 hc 9 u9
  · obtain rfl : n = 0 := by omega
    obtain rfl : zs = [] := List.eq_nil_of_length_eq_zero h.1
    cases a with
    | none => exact run_convert_bytes_nil w 22 5 Try.underlying22 Try.underlying5 0 c 9 u9
    | some x =>
      rw [run_convert_bytes_string w 22 9 5 _ 0 c Try.underlying22 Try.underlying5 u9, run_bytesToString w x 0 c [] (by simp [loadCells, loadCellsFrom])]
      rfl

set_option maxHeartbeats 400000 in
theorem end_failed (g : Nat) (v : Value) (w : World) (h2 : w.cell? ⟨g, 2, none⟩ = some (.iface 43 v)) :
    Calls Try.prog 11 #[.pointer (some ⟨g, 0, none⟩)] w fun e w' => e = .returned (.tuple #[.slice none 0 0, .iface 43 v]) ∧ Below w.heap.size w w' := by
  go_enter Try.func11, Try.ntmps11
  go_wp2
  go_quiet (fail)
  go_wp2
  go_ret2
  exact ⟨rfl, below_drewN (Below.refl _ _) _⟩

set_option maxHeartbeats 400000 in
theorem marshal_good (g n : Nat) (a : Option Addr) (st : Int) (zs : List Int) (w : World) (h0 : w.cell? ⟨g, 0, none⟩ = some (.slice a n n)) (h1 : w.cell? ⟨g, 1, none⟩ = some (.int .i64 st)) (h2 : w.cell? ⟨g, 2, none⟩ = some .nilIface)
    (hst : ((n : Int) == st) = false) (hr : Rd w a n zs) (hnone : a = none → n = 0) (hn : n ≤ 4194304) :
    Calls Try.prog 16 #[.pointer (some ⟨g, 0, none⟩)] w fun e w' => ∃ a' c', e = .returned (.tuple #[.slice a' (n + 1) c', .nilIface]) ∧ Rd w' a' (n + 1) (zs ++ [125]) ∧ Below w.heap.size w w' := by
  have HC := end_any g n a st zs w h0 h1 h2 hst hr hnone hn
  have H : Hid (Calls Try.prog 11 #[.pointer (some ⟨g, 0, none⟩)] w fun e w' => ∃ a' c', e = .returned (.tuple #[.slice a' (n + 1) c', .nilIface]) ∧ Rd w' a' (n + 1) (zs ++ [125]) ∧ Below w.heap.size w w') := HC
  clear HC h0 h1 h2 hst hr hnone
  go_enter Try.func16, Try.ntmps16
  go_wp2_with fail
  refine H.out.mono ?_
  rintro e w1 ⟨a', c', rfl, hr, hb⟩
  have HR : Hid (Rd w1 a' (n + 1) (zs ++ [125])) := hr
  clear hr H
  go_wp2
  go_ret2
  exact ⟨a', c', rfl, HR.out, hb⟩

set_option maxHeartbeats 400000 in
theorem marshal_failed (g : Nat) (v : Value) (w : World) (h2 : w.cell? ⟨g, 2, none⟩ = some (.iface 43 v)) :
    Calls Try.prog 16 #[.pointer (some ⟨g, 0, none⟩)] w fun e w' => e = .returned (.tuple #[.slice none 0 0, .iface 43 v]) ∧ Below w.heap.size w w' := by
  have HC := end_failed g v w h2
  have H : Hid (Calls Try.prog 11 #[.pointer (some ⟨g, 0, none⟩)] w fun e w' => e = .returned (.tuple #[.slice none 0 0, .iface 43 v]) ∧ Below w.heap.size w w') := HC
  clear HC h2
  go_enter Try.func16, Try.ntmps16
  go_wp2_with fail
  refine H.out.mono ?_
  rintro e w1 ⟨rfl, hb⟩
  clear H
  go_wp2
  go_ret2
  exact ⟨rfl, hb⟩

theorem method_obj (a : Addr) : ∀ w, (method 163 27 (.pointer (some a)) "MarshalJSON").run Try.prog w = .ok (16, .pointer (some a)) w := fun _ => by kernel_rfl

set_option maxHeartbeats 400000 in
theorem text_failed (s : ByteArray) (g : Nat) (v : Value) (w : World) (h2 : w.cell? ⟨g, 2, none⟩ = some (.iface 43 v)) :
    Calls Try.prog 19 #[.string s, .iface 27 (.pointer (some ⟨g, 0, none⟩))] w fun e w' => e = .returned (.string s) ∧ Below w.heap.size w w' := by
  have HC := marshal_failed g v w h2
  have H : Hid (Calls Try.prog 16 #[.pointer (some ⟨g, 0, none⟩)] w fun e w' => e = .returned (.tuple #[.slice none 0 0, .iface 43 v]) ∧ Below w.heap.size w w') := HC
  clear HC h2
  have hm := method_obj ⟨g, 0, none⟩
  go_enter Try.func19, Try.ntmps19
  go_wp2_with fail
  refine H.out.mono ?_
  rintro e w1 ⟨rfl, hb⟩
  clear H hm
  go_wp2
  go_ret
  exact ⟨rfl, hb⟩

set_option maxHeartbeats 400000 in
theorem text_good (s : ByteArray) (g n : Nat) (a : Option Addr) (st : Int) (zs : List Int) (w : World) (h0 : w.cell? ⟨g, 0, none⟩ = some (.slice a n n)) (h1 : w.cell? ⟨g, 1, none⟩ = some (.int .i64 st)) (h2 : w.cell? ⟨g, 2, none⟩ = some .nilIface)
    (hst : ((n : Int) == st) = false) (hr : Rd w a n zs) (hnone : a = none → n = 0) (hn : n ≤ 4194304) (hn2 : 2 ≤ n) (hs : s.size ≤ 4194304) :
    Calls Try.prog 19 #[.string s, .iface 27 (.pointer (some ⟨g, 0, none⟩))] w fun e w' => e = .returned (.string (s ++ ⟨#[32]⟩ ++ strOfNums (zs ++ [125]))) ∧ Below w.heap.size w w' := by
  have HC := marshal_good g n a st zs w h0 h1 h2 hst hr hnone hn
  have H : Hid (Calls Try.prog 16 #[.pointer (some ⟨g, 0, none⟩)] w fun e w' => ∃ a' c', e = .returned (.tuple #[.slice a' (n + 1) c', .nilIface]) ∧ Rd w' a' (n + 1) (zs ++ [125]) ∧ Below w.heap.size w w') := HC
  have hzl := hr.1
  have hm := method_obj ⟨g, 0, none⟩
  have HS : Hid ((strOfNums (zs ++ [125])).size = n + 1) := by show _ = _; rw [strOfNums_size]; simp; omega
  clear HC h0 h1 h2 hst hr hnone hzl
  go_enter Try.func19, Try.ntmps19
  go_wp2_with fail
  refine H.out.mono ?_
  rintro e w1 ⟨a', c', rfl, hr, hb⟩
  have hcv : (convert 22 9 (.slice a' (n + 1) c')).run Try.prog w1 = .ok (.string (strOfNums (zs ++ [125]))) w1 := conv_any hr c'
  obtain ⟨d, hd⟩ : ∃ d, d = strOfNums (zs ++ [125]) := ⟨_, rfl⟩
  have HE : Hid (d = strOfNums (zs ++ [125])) := hd
  rw [← hd] at hcv
  have hds : d.size ≤ 4194305 := by rw [hd, HS.out]; omega
  have hne : (d.toList == [123, 125]) = false := by
    rw [beq_eq_false_iff_ne]
    intro h
    have h' := congrArg List.length h
    rw [ByteArray.toList_eq] at h'
    have h2 := HS.out
    rw [← hd] at h2
    simp only [Array.length_toList, List.length_cons, List.length_nil] at h'
    have h3 : d.data.size = d.size := rfl
    omega
  clear H hm hr hd
  go_wp2
  go_ret
  exact ⟨by rw [HE.out]; rfl, hb⟩

/-- ZZExceptionTextOfObject (15) at a good object that has members. -/
theorem exc_good (s : ByteArray) (g n : Nat) (a : Option Addr) (st : Int) (zs : List Int) (w : World) (h0 : w.cell? ⟨g, 0, none⟩ = some (.slice a n n)) (h1 : w.cell? ⟨g, 1, none⟩ = some (.int .i64 st)) (h2 : w.cell? ⟨g, 2, none⟩ = some .nilIface)
    (hst : ((n : Int) == st) = false) (hr : Rd w a n zs) (hnone : a = none → n = 0) (hn : n ≤ 4194304) (hn2 : 2 ≤ n) (hs : s.size ≤ 4194304) :
    Calls Try.prog 15 #[.string s, .pointer (some ⟨g, 0, none⟩)] w fun e w' => e = .returned (.string (s ++ ⟨#[32]⟩ ++ strOfNums (zs ++ [125]))) ∧ Below w.heap.size w w' := by
  have H : Hid (Calls Try.prog 19 #[.string s, .iface 27 (.pointer (some ⟨g, 0, none⟩))] w fun e w' => e = .returned (.string (s ++ ⟨#[32]⟩ ++ strOfNums (zs ++ [125]))) ∧ Below w.heap.size w w') :=
    text_good s g n a st zs w h0 h1 h2 hst hr hnone hn hn2 hs
  obtain ⟨t, ht⟩ : ∃ t, t = s ++ ⟨#[32]⟩ ++ strOfNums (zs ++ [125]) := ⟨_, rfl⟩
  rw [← ht] at H ⊢
  clear h0 h1 h2 hst hr hnone ht
  go_enter Try.func15, Try.ntmps15
  go_wp2_with fail
  refine H.out.mono ?_
  rintro e w1 ⟨rfl, hb⟩
  clear H
  go_wp2
  go_ret
  exact ⟨rfl, hb⟩

/-- ZZExceptionTextOfObject (15) at a failed object. -/
theorem exc_failed (s : ByteArray) (g : Nat) (v : Value) (w : World) (h2 : w.cell? ⟨g, 2, none⟩ = some (.iface 43 v)) :
    Calls Try.prog 15 #[.string s, .pointer (some ⟨g, 0, none⟩)] w fun e w' => e = .returned (.string s) ∧ Below w.heap.size w w' := by
  have H : Hid (Calls Try.prog 19 #[.string s, .iface 27 (.pointer (some ⟨g, 0, none⟩))] w fun e w' => e = .returned (.string s) ∧ Below w.heap.size w w') := text_failed s g v w h2
  clear h2
  go_enter Try.func15, Try.ntmps15
  go_wp2_with fail
  refine H.out.mono ?_
  rintro e w1 ⟨rfl, hb⟩
  clear H
  go_wp2
  go_ret
  exact ⟨rfl, hb⟩

/-- ZZFailedObject (18). -/
theorem failed_at (a : Option Addr) (n c : Nat) (w : World) :
    Calls Try.prog 18 #[.slice a n c] w fun e w' => ∃ g v, e = .returned (.pointer (some ⟨g, 0, none⟩)) ∧ w'.cell? ⟨g, 2, none⟩ = some (.iface 43 v) ∧ Below w.heap.size w w' := by
  go_enter Try.func18, Try.ntmps18
  go_wp2
  go_ret
  exact ⟨w.heap.size + 1, .pointer (some ⟨w.heap.size, 0, none⟩), rfl, by simp, ((Below.refl _ _).alloc (Nat.le_refl _) _).alloc (by simp) _⟩

theorem bytes17_yes (s : ByteArray) (a' : Option Addr) (m c' : Nat) (w : World) (h : s.size + m ≤ 1048576) :
    Calls Try.prog 17 #[.string s, .slice a' m c'] w fun e w' => e = .returned (.bool true) ∧ w' = w := by
  have h1 : ¬ (1048576 : Int) < (s.size : Int) := by omega
  have h2 : ¬ (1048576 : Int) < (m : Int) := by omega
  have h3 : ¬ (1048576 : Int) < (s.size : Int) + (m : Int) := by omega
  go_enter Try.func17, Try.ntmps17
  go_wp2
  go_ret
  exact ⟨rfl, rfl⟩

theorem bytes17_no (s : ByteArray) (a' : Option Addr) (m c' : Nat) (w : World) (h : ¬ s.size + m ≤ 1048576) :
    Calls Try.prog 17 #[.string s, .slice a' m c'] w fun e w' => e = .returned (.bool false) ∧ w' = w := by
  by_cases h1 : (1048576 : Int) < (s.size : Int)
  · go_enter Try.func17, Try.ntmps17
    go_wp2
    go_ret
    exact ⟨rfl, rfl⟩
  · by_cases h2 : (1048576 : Int) < (m : Int)
    · go_enter Try.func17, Try.ntmps17
      go_wp2
      go_ret
      exact ⟨rfl, rfl⟩
    · have h3 : (1048576 : Int) < (s.size : Int) + (m : Int) := by omega
      go_enter Try.func17, Try.ntmps17
      go_wp2
      go_ret
      exact ⟨rfl, rfl⟩

theorem bytes13_yes (s : ByteArray) (a' : Option Addr) (m c' : Nat) (w : World) (h : s.size + m ≤ 1048576) :
    Calls Try.prog 13 #[.string s, .slice a' m c'] w fun e w' => e = .returned (.bool true) ∧ w' = w := by
  have h1 : ¬ (1048576 : Int) < (s.size : Int) := by omega
  have h2 : ¬ (1048576 : Int) < (m : Int) := by omega
  have h3 : ¬ (1048576 : Int) < (s.size : Int) + (m : Int) := by omega
  go_enter Try.func13, Try.ntmps13
  go_wp2
  go_ret
  exact ⟨rfl, rfl⟩

theorem bytes13_no (s : ByteArray) (a' : Option Addr) (m c' : Nat) (w : World) (h : ¬ s.size + m ≤ 1048576) :
    Calls Try.prog 13 #[.string s, .slice a' m c'] w fun e w' => e = .returned (.bool false) ∧ w' = w := by
  by_cases h1 : (1048576 : Int) < (s.size : Int)
  · go_enter Try.func13, Try.ntmps13
    go_wp2
    go_ret
    exact ⟨rfl, rfl⟩
  · by_cases h2 : (1048576 : Int) < (m : Int)
    · go_enter Try.func13, Try.ntmps13
      go_wp2
      go_ret
      exact ⟨rfl, rfl⟩
    · have h3 : (1048576 : Int) < (s.size : Int) + (m : Int) := by omega
      go_enter Try.func13, Try.ntmps13
      go_wp2
      go_ret
      exact ⟨rfl, rfl⟩

theorem strOfNums_append (x y : List Int) : strOfNums (x ++ y) = strOfNums x ++ strOfNums y := by
  unfold strOfNums
  rw [ByteArray.mk_append_mk, List.map_append]

end Go.Proofs.Qxb6616431a
