/-
  End (11), MarshalJSON (16), ExceptionText (19), ZZExceptionTextOfObject (15) at an object without members; AppendObject (14).
-/
import Derived.Test.Qxb6616431aExc
import Derived.Deep.AppendSrc
namespace Go.Proofs.Qxb6616431a
open Go.RowKit

/-- An append whose run is known. -/
theorem wpList_append_run {P : Program} (w : World) {ops : Array Oper} {rest : List Oper} {o : Oper} {a : Act} {Q : Exit → Act → World → Prop}
    (hg : o.guard = none) (s x : Operand) (t tx : TypeId) (hop : o.op = Op.call { callee := Callee.builtin Builtin.append, args := #[s, x], argTypes := #[t, tx] })
    (vs vx : Value) (hs : a.eval s = vs) (hx : a.eval x = vx) (v' : Value) (w' : World) (hrun : (Builtin.append_ #[t, tx] o.type #[vs, vx]).run P w = .ok v' w')
    (hK : wpList P ops Q rest (a.put o.dst v') w') : wpList P ops Q (o :: rest) a w := by
  refine wpList_plain hg fun K hK' => ?_
  unfold Oper.wp
  simp [execOp, hop, resolve, invoke, builtin, hs, hx, hrun, Result.andThen]
  exact hK' _ _ hK

theorem append_braces (w : World) : ∃ a' c' w1, (Builtin.append_ #[22, 9] 22 #[.slice none 0 0, .string ⟨#[123, 125]⟩]).run Try.prog w = .ok (.slice a' 2 c') w1 ∧ Rd w1 a' 2 [123, 125] ∧ Below w.heap.size w w1 := by
  obtain ⟨i0, hi, hz0, hz1, hz2⟩ := info_parts Try.info5
  have hsrc : Src Try.prog i0.size 9 (.string ⟨#[123, 125]⟩) 2 [.int .u8 123, .int .u8 125] w := by
    rw [hz1]; exact Src.ofString w Try.underlying9 ⟨#[123, 125]⟩
  have hr := run_append_grow_src (P := Try.prog) w 22 9 22 5 i0 (.int .u8 0) Try.underlying22 hi hz0 none 0 0 [] (run_firstCells_none w.drew i0.size 0 0 0) _ 2 _ hsrc (by omega) (by omega)
    (by rw [hz2]; decide)
  refine ⟨_, _, _, hr, ⟨rfl, fun i hi2 => ⟨w.heap.size, 0, rfl, ?_⟩⟩, ((Below.refl _ _).drew).alloc (Nat.le_refl _) _⟩
  have e : w.heap.size = w.drew.heap.size := rfl
  rw [e, World.cell?_alloc_mark]
  match i, hi2 with
  | 0, _ => simp [Array.getElem?_append]
  | 1, _ => simp [Array.getElem?_append]

set_option maxHeartbeats 400000 in
theorem end_fresh (g : Nat) (w : World) (h0 : w.cell? ⟨g, 0, none⟩ = some (.slice none 0 0)) (h1 : w.cell? ⟨g, 1, none⟩ = some (.int .i64 0)) (h2 : w.cell? ⟨g, 2, none⟩ = some .nilIface) :
    Calls Try.prog 11 #[.pointer (some ⟨g, 0, none⟩)] w fun e w' => ∃ a' c', e = .returned (.tuple #[.slice a' 2 c', .nilIface]) ∧ Rd w' a' 2 [123, 125] ∧ Below w.heap.size w w' := by
  go_enter Try.func11, Try.ntmps11
  go_wp2
  go_quiet (fail)
  obtain ⟨a', c', w1, hrun, hR, hb⟩ := append_braces (w.drewN nq)
  have HR : Hid (Rd w1 a' 2 [123, 125]) := hR
  have HB : Hid (Below w.heap.size w w1) := (below_drewN (Below.refl _ _) nq).trans hb
  have HRUN : Hid ((Builtin.append_ #[22, 9] 22 #[.slice none 0 0, .string ⟨#[123, 125]⟩]).run Try.prog (w.drewN nq) = .ok (.slice a' 2 c') w1) := hrun
  clear hR hb hrun
  go_wp2_with (first | (at_builtin; refine wpList_append_run _ rfl (.tmp 28) (.const (.string ⟨#[123, 125]⟩)) 22 9 rfl _ _ rfl rfl _ _ HRUN.out ?_) | fail)
  go_wp2
  go_ret2
  exact ⟨a', c', rfl, HR.out, HB.out⟩

set_option maxHeartbeats 400000 in
theorem marshal_fresh (g : Nat) (w : World) (h0 : w.cell? ⟨g, 0, none⟩ = some (.slice none 0 0)) (h1 : w.cell? ⟨g, 1, none⟩ = some (.int .i64 0)) (h2 : w.cell? ⟨g, 2, none⟩ = some .nilIface) :
    Calls Try.prog 16 #[.pointer (some ⟨g, 0, none⟩)] w fun e w' => ∃ a' c', e = .returned (.tuple #[.slice a' 2 c', .nilIface]) ∧ Rd w' a' 2 [123, 125] ∧ Below w.heap.size w w' := by
  have H : Hid (Calls Try.prog 11 #[.pointer (some ⟨g, 0, none⟩)] w fun e w' => ∃ a' c', e = .returned (.tuple #[.slice a' 2 c', .nilIface]) ∧ Rd w' a' 2 [123, 125] ∧ Below w.heap.size w w') := end_fresh g w h0 h1 h2
  clear h0 h1 h2
  go_enter Try.func16, Try.ntmps16
  go_wp2_with fail
  refine H.out.mono ?_
  rintro e w1 ⟨a', c', rfl, hr, hb⟩
  have HR : Hid (Rd w1 a' 2 [123, 125]) := hr
  clear hr H
  go_wp2
  go_ret2
  exact ⟨a', c', rfl, HR.out, hb⟩

set_option maxHeartbeats 400000 in
theorem text_fresh (s : ByteArray) (g : Nat) (w : World) (h0 : w.cell? ⟨g, 0, none⟩ = some (.slice none 0 0)) (h1 : w.cell? ⟨g, 1, none⟩ = some (.int .i64 0)) (h2 : w.cell? ⟨g, 2, none⟩ = some .nilIface) :
    Calls Try.prog 19 #[.string s, .iface 27 (.pointer (some ⟨g, 0, none⟩))] w fun e w' => e = .returned (.string s) ∧ Below w.heap.size w w' := by
  have H : Hid (Calls Try.prog 16 #[.pointer (some ⟨g, 0, none⟩)] w fun e w' => ∃ a' c', e = .returned (.tuple #[.slice a' 2 c', .nilIface]) ∧ Rd w' a' 2 [123, 125] ∧ Below w.heap.size w w') := marshal_fresh g w h0 h1 h2
  have hm := method_obj ⟨g, 0, none⟩
  clear h0 h1 h2
  go_enter Try.func19, Try.ntmps19
  go_wp2_with fail
  refine H.out.mono ?_
  rintro e w1 ⟨a', c', rfl, hr, hb⟩
  have hcv : (convert 22 9 (.slice a' 2 c')).run Try.prog w1 = .ok (.string ⟨#[123, 125]⟩) w1 := conv_any hr c'
  clear H hm hr
  go_wp2
  go_ret
  exact ⟨rfl, hb⟩

/-- ZZExceptionTextOfObject (15) at an object without members. -/
theorem exc_fresh (s : ByteArray) (g : Nat) (w : World) (h0 : w.cell? ⟨g, 0, none⟩ = some (.slice none 0 0)) (h1 : w.cell? ⟨g, 1, none⟩ = some (.int .i64 0)) (h2 : w.cell? ⟨g, 2, none⟩ = some .nilIface) :
    Calls Try.prog 15 #[.string s, .pointer (some ⟨g, 0, none⟩)] w fun e w' => e = .returned (.string s) ∧ Below w.heap.size w w' := by
  have H : Hid (Calls Try.prog 19 #[.string s, .iface 27 (.pointer (some ⟨g, 0, none⟩))] w fun e w' => e = .returned (.string s) ∧ Below w.heap.size w w') := text_fresh s g w h0 h1 h2
  clear h0 h1 h2
  go_enter Try.func15, Try.ntmps15
  go_wp2_with fail
  refine H.out.mono ?_
  rintro e w1 ⟨rfl, hb⟩
  clear H
  go_wp2
  go_ret
  exact ⟨rfl, hb⟩

/-- AppendObject (14) at nil. -/
theorem fresh_at (w : World) :
    Calls Try.prog 14 #[.slice none 0 0] w fun e w' => e = .returned (.agg #[.slice none 0 0, .int .i64 0, .nilIface]) ∧ Below w.heap.size w w' := by
  go_enter Try.func14, Try.ntmps14
  go_wp2
  exact bodyPost_ret (v := .agg #[.slice none 0 0, .int .i64 0, .nilIface]) (by simp [results, Try.results14, go_sem]) rfl ⟨rfl, (Below.refl _ _).alloc (Nat.le_refl _) _⟩

end Go.Proofs.Qxb6616431a
