/-
  The closed facts for the walk over fmt's stopped fronts at this program (after the guide's worked texts), and fmt.Errorf's contract at the one format that the road comes to.
-/
import Derived.Test.Qxb6616877aFmtClone
import Derived.Stop.CallBack
import Derived.Stop.IfaceNil
import Derived.Stop.Walk2
import Derived.Deep.RegionWith
import GoSem.ClaimData
namespace Go.Proofs.Qxb6616877aFmt
open Go.RowKit Go.Extern.Stop Go.Stop Go.Extern

theorem call18 (args : Array Value) (w : World) : (callFunc 18 args).run Tryf.prog w = (FmtCalls.errorf #[9, 47] #[26] args).run Tryf.prog w :=
  run_callFunc_next Tryf.func18 (by kernel_rfl) (by kernel_rfl) (by kernel_rfl) args w
theorem call29 (args : Array Value) (w : World) : (callFunc 29 args).run Tryf.prog w = (FmtCalls.sprintf #[9, 47] #[9] args).run Tryf.prog w :=
  run_callFunc_next Tryf.func29 (by kernel_rfl) (by kernel_rfl) (by kernel_rfl) args w
theorem fmtGuard (name : String) (w : World) : (FmtStop.guard name).run Tryf.prog w = .ok () w := by kernel_rfl
theorem fmt0 : FmtStop.printed? ⟨#[37, 115, 58, 32, 37, 115]⟩ 2 = some [(0, 115, false), (1, 115, false)] := by kernel_rfl
theorem fmt0r (w : World) : (FmtDoors.printed ⟨#[37, 115, 58, 32, 37, 115]⟩ 2).run Tryf.prog w = .ok [(0, 115, false), (1, 115, false)] w := by kernel_rfl
theorem fmt1 : FmtStop.printed? ⟨#[99, 117, 116, 32, 115, 104, 111, 114, 116]⟩ 0 = some [] := by kernel_rfl
theorem fmt1r (w : World) : (FmtDoors.printed ⟨#[99, 117, 116, 32, 115, 104, 111, 114, 116]⟩ 0).run Tryf.prog w = .ok [] w := by kernel_rfl
def shape9 : List UInt8 := [12, 6, 0, 0, 0, 0, 0, 0, 0, 115, 116, 114, 105, 110, 103]
theorem act9 (name : String) (x : Value) (w : World) : (FmtCalls.act name true 115 false (.iface 9 x)).run Tryf.prog w = .ok (.closed true) w := by kernel_rfl
theorem op9 (name : String) (x : ByteArray) (w : World) : (FmtStop.operand name true 115 false (.iface 9 (.string x))).run Tryf.prog w = .ok (shape9, FmtStop.pack x.data.toList) w := by kernel_rfl
theorem act9f (name : String) (x : Value) (w : World) : (FmtCalls.act name false 115 false (.iface 9 x)).run Tryf.prog w = .ok (.closed false) w := by kernel_rfl
theorem op9f (name : String) (x : ByteArray) (w : World) : (FmtStop.operand name false 115 false (.iface 9 (.string x))).run Tryf.prog w = .ok (shape9, FmtStop.pack x.data.toList) w := by kernel_rfl
theorem strict9 (name : String) (x : ByteArray) (w : World) : (FmtStop.strict name (.iface 9 (.string x))).run Tryf.prog w = .ok (shape9, FmtStop.pack x.data.toList) w := by kernel_rfl
theorem ptr53 (w : World) : (FmtStop.ptrTo "errors.errorString").run Tryf.prog w = .ok 53 w := by kernel_rfl
theorem elem53 (w : World) : (elemOf 53).run Tryf.prog w = .ok 55 w := by kernel_rfl
theorem isError53 (w : World) : (FmtDoors.textMethod 53 "Error").run Tryf.prog w = .ok true w := by kernel_rfl
theorem nextTurns : Extern.next FmtCalls.turnsRow = some (FmtCalls.begun #[] #[]) := by kernel_rfl
attribute [local go_sem] call18 call29 fmtGuard fmt0 fmt0r fmt1 fmt1r act9 op9 act9f op9f strict9 ptr53 elem53 isError53

set_option maxHeartbeats 400000 in
theorem errorf_any (F : Interp) (g : Nat) (s1 s2 : ByteArray) (w : World) (hF : F.answers w.tape) (h0 : w.cell? ⟨g, 0, none⟩ = some (.iface 9 (.string s1))) (h1 : w.cell? ⟨g, 1, none⟩ = some (.iface 9 (.string s2))) :
    Calls Tryf.prog 14 #[.string ⟨#[37, 115, 58, 32, 37, 115]⟩, .slice (some ⟨g, 0, none⟩) 2 2] w fun e w' => ∃ v, e = .returned (.iface 53 v) ∧ Below w.heap.size w w' := by
  have hF' := answers_open hF
  go_enter Tryf.func14, Tryf.ntmps14
  go_wp2
  apply rows_value nextTurns
  case hr => go_simp; exact ⟨rfl, rfl⟩
  case h =>
    go_wp2
    go_ret
    exact ⟨_, rfl, ((Below.refl _ _).alloc (Nat.le_refl _) _).drew⟩

theorem fail_close {w w1 : World} {g : Nat} {s : ByteArray} {v1 v2 v3 : Value} (hg : w.heap[g]? = some (.cells #[.string s, v1, v2, v3, .nilIface] 43 (0, 0))) (hB : Below w.heap.size w w1) (hlt : g < w.heap.size) (v : Value) :
    (w1.setCell ⟨g, 4, none⟩ (.iface 53 v)).heap[g]? = some (.cells #[.string s, v1, v2, v3, .iface 53 v] 43 (0, 0)) ∧ w.grownBy (w1.setCell ⟨g, 4, none⟩ (.iface 53 v)) (some g) := by
  have h1 : w1.heap[g]? = some (.cells #[.string s, v1, v2, v3, .nilIface] 43 (0, 0)) := (hB.block g hlt).trans hg
  refine ⟨?_, hB.os, hB.tape, hB.output, by simp [World.setCell]; exact hB.size, fun k hk hne => ?_⟩
  · rw [heap_setCell_same w1 g 4 _ 43 _ h1]; rfl
  · rw [heap_setCell_other w1 ⟨g, 4, none⟩ k _ (fun e => hne (by rw [e]))]
    exact hB.block k hk

set_option maxHeartbeats 400000 in
theorem fail_any (F : Interp) (g : Nat) (s : ByteArray) (v1 v2 v3 : Value) (w : World) (hF : F.answers w.tape) (hg : w.heap[g]? = some (.cells #[.string s, v1, v2, v3, .nilIface] 43 (0, 0))) :
    Calls Tryf.prog 22 #[.pointer (some ⟨g, 0, none⟩), .string ⟨#[99, 117, 116, 32, 115, 104, 111, 114, 116]⟩, .slice none 0 0] w fun e w' => e = .returned (.tuple #[]) ∧ ∃ v, w'.heap[g]? = some (.cells #[.string s, v1, v2, v3, .iface 53 v] 43 (0, 0)) ∧ w.grownBy w' (some g) := by
  have hF' := answers_open hF
  have h0 : w.cell? ⟨g, 0, none⟩ = some (.string s) := by rw [cell_of_row w g 0 _ 43 (0, 0) hg]; rfl
  have h4 : w.cell? ⟨g, 4, none⟩ = some .nilIface := by rw [cell_of_row w g 4 _ 43 (0, 0) hg]; rfl
  have f4 : w.frozen? ⟨g, 4, none⟩ = false := frozen_of_row w g 4 _ 43 hg
  have hlt : g < w.heap.size := World.block_lt_of_cell? w _ h0
  go_enter Tryf.func22, Tryf.ntmps22
  go_wp2
  go_region_with (first
    | (with_reducible apply rows_value nextTurns; (case hr => go_simp; exact ⟨rfl, rfl⟩))
    | (go_at_call 14; refine (errorf_any F w.heap.size s (FmtStop.textOf (F "fmt.Sprintf" [[99, 117, 116, 32, 115, 104, 111, 114, 116]] 0)) _ ?_ ?_ ?_).mono ?_; (exact hF); (simp); (simp); rintro e w1 ⟨v, rfl, hb1⟩; have hB : Below w.heap.size w w1 := Below.trans ((((Below.refl _ _).alloc (Nat.le_refl _) _).drew).drew) (hb1.mono (by simp)); have k4 : w1.cell? ⟨g, 4, none⟩ = some .nilIface := cell_later hB h4; have q4 : w1.frozen? ⟨g, 4, none⟩ = false := (hB.frozen (p := ⟨g, 4, none⟩) hlt).trans f4; clear hb1))
  all_goals
    go_end0
    exact ⟨rfl, v, fail_close hg hB hlt v⟩
end Go.Proofs.Qxb6616877aFmt
