/-
  The proof of 'Rows.FnTakeWholeAndArrivingAgreeToldSaid': the row's step over the walk (Qxb6616877aFmtLaw.lean), then the card by the builder's one call.
-/
import Derived.Test.Qxb6616877aFmtCards
import Derived.Test.Qxb6616877aFmtTie
import Derived.Test.Qxb6616877aFmtLaw
import Derived.ProofKit
import Derived.OpenShut
import Derived.ChangeOld
import Derived.Below
import Derived.Carry
import Derived.Stop.JoinedAt
import Derived.Stop.JoinedTold
import Derived.Stop.LaidErr
import Derived.Stop.LaidTwo
import Derived.SevenTiedAt
namespace Go.Proofs.Qxb6616877aFmt.fnTakeWholeAndArrivingAgree
open Go.ChangeShapes Go.WideShapes Go.ChangeAt Go.RowKit
open Go.Extern.Stop Go.Stop Go.Extern
set_option linter.unusedVariables false

theorem own : ownKnob Tryf.prog.godebug = none := by kernel_rfl
theorem laidOut : laidOutB Tryf.prog = true := by kernel_rfl
theorem laidOut' : laidOutB Tryf.pinned.checked.prog = true := by kernel_rfl
theorem stopKnobs : Tryf.pinned.checked.prog.stopKnobs = [] := by kernel_rfl
theorem quiet (os : Os) : Stop.quiet Tryf.pinned.checked.prog os := by
  intro k hk
  rw [stopKnobs] at hk
  cases hk
theorem gE : Tryf.prog.globalNamed "io.EOF" = some 1 := by kernel_rfl
theorem gU : Tryf.prog.globalNamed "io.ErrUnexpectedEOF" = some 2 := by kernel_rfl
theorem gS : Tryf.prog.globalNamed "io.ErrShortBuffer" = some 3 := by kernel_rfl
theorem gEType : (Tryf.prog.globals[1]?).map (·.type) = some 26 := by kernel_rfl
theorem gUType : (Tryf.prog.globals[2]?).map (·.type) = some 26 := by kernel_rfl
theorem cells55 : Tryf.prog.cellsOf 55 = 1 := by kernel_rfl
theorem cells9 : Tryf.prog.cellsOf 9 = 1 := by kernel_rfl
/-- A start in which the three variables hold their errors. -/
def lowOf (P : Program) : Nat := (World.holding P default ⟨#[], #[], []⟩).heap.size
def laidWorldOf (P : Program) (os : Os) : World :=
  let w0 := World.holding P os ⟨#[.cells #[.string ⟨#[69, 79, 70]⟩] 55, .cells #[.string ⟨#[117, 110, 101, 120, 112, 101, 99, 116, 101, 100, 32, 69, 79, 70]⟩] 55, .cells #[.string ⟨#[115, 104, 111, 114, 116, 32, 98, 117, 102, 102, 101, 114]⟩] 55], #[], []⟩
  { w0 with heap := ((w0.heap.modify 1 fun
      | .cells _ t frozen => .cells #[.iface 53 (.pointer (some ⟨lowOf P, 0, none⟩))] t frozen
      | o => o).modify 2 fun
      | .cells _ t frozen => .cells #[.iface 53 (.pointer (some ⟨lowOf P + 1, 0, none⟩))] t frozen
      | o => o).modify 3 fun
      | .cells _ t frozen => .cells #[.iface 53 (.pointer (some ⟨lowOf P + 2, 0, none⟩))] t frozen
      | o => o }
theorem laid_met (os : Os) (args : Array Value) : laidMet Tryf.prog Rows.fnTakeWholeAndArrivingAgreeRow.laid ((laidWorldOf Tryf.prog os).forCall (fun _ _ => 0) ⟨#[], args, []⟩).memory :=
  laidMet_of_run (ps := [.cell 3 0, .cell (lowOf Tryf.prog + 2) 0, .cell 1 0, .cell (lowOf Tryf.prog) 0, .cell 2 0, .cell (lowOf Tryf.prog + 1) 0]) 8 (by kernel_rfl) (by kernel_rfl) (by kernel_rfl)

/-- What the walk is told of a slice of integers that came in. -/
def IsRow (k : IntKind) (w : World) (a : Option Addr) (len cap : Nat) (zs : List Int) : Prop :=
  (a = none ∧ len = 0 ∧ cap = 0 ∧ zs = []) ∨
  ∃ x, a = some x ∧ len ≤ cap ∧ cap ≤ maxLen ∧ zs.length = cap ∧ (∀ i, i < zs.length → w.cell? (x.add i) = some (.int k (zs.getD i 0))) ∧ ∀ n ∈ zs, (Lit.int k n).wf = true

theorem cells_of_row {k : IntKind} {w : World} {a : Option Addr} {len cap : Nat} {zs : List Int} (h : IsRow k w a len cap zs) :
    ((zs.take len).length = len ∧ ∀ i, i < len → ∃ b off, a = some ⟨b, off, none⟩ ∧ w.cell? ⟨b, off + i, none⟩ = some (.int k ((zs.take len).getD i 0))) ∧ (a = none → len = 0) := by
  rcases h with ⟨rfl, rfl, rfl, rfl⟩ | ⟨x, rfl, hl, hm, hz, hcell, hwz⟩
  · exact ⟨⟨rfl, fun i hi => by omega⟩, fun _ => rfl⟩
  · refine ⟨⟨by simp; omega, fun i hi => ?_⟩, fun h => by simp at h⟩
    obtain ⟨b, off, spot⟩ := x
    have hc := hcell i (by omega)
    have hspot : spot = none := by
      have h0 := hcell 0 (by omega)
      simpa [Addr.add] using World.cell?_spot h0
    subst hspot
    refine ⟨b, off, rfl, ?_⟩
    rw [Addr.add_lit] at hc
    rw [hc]
    simp [List.getD_eq_getElem?_getD, hi]

set_option maxRecDepth 100000 in
theorem lifted (os : Os) (started : os.Started) (H : Type) (enc : TypeId × Value → H) :
    ReturnsInTold none {} Tryf.checked os 4 .any Input.okWide ((OpenSpec.ofChange Rows.fnTakeWholeAndArrivingAgreeSpec).preRow enc Tryf.prog Tryf.f4 [] false Rows.fnTakeWholeAndArrivingAgreeRow.laid)
      (fun F => ((OpenSpec.ofChange Rows.fnTakeWholeAndArrivingAgreeSpec).at F).post enc Tryf.prog Tryf.f4 false true false false) (aloneAtReturn Tryf.prog) nothingAlways := by
  refine returnsInTold_of_row (C := Tryf.checked) (s := OpenSpec.ofChange Rows.fnTakeWholeAndArrivingAgreeSpec) (by kernel_rfl) own started (by kernel_rfl) Tryf.func4
    (OpenSpec.witness_stopped_at (enc := enc) (C := Tryf.checked) false (laidWorldOf Tryf.prog os) #[.slice none 0 0, .slice none 0 0] rfl (by kernel_rfl) (by kernel_rfl) (by kernel_rfl)
      (OpenSpec.preRow_of_B rfl 8 (by kernel_rfl) (by kernel_rfl) (laid_met os _))) ?_
  intro F W base args ds gs before _ hF hval0 hW _ _ _ hL0 _
  have hL : laidMet Tryf.prog [("io.ErrShortBuffer", Rows.laid_io_ErrShortBuffer), ("io.EOF", Rows.laid_io_EOF), ("io.ErrUnexpectedEOF", Rows.laid_io_ErrUnexpectedEOF)] W := hL0
  obtain ⟨aE, aU, s0, s1, cE, cU, tE, tU, hv0, hv1, hc0, hs0, hz0, hc1, hs1, hz1, hne, hb0, hb1⟩ := laid_sentinels2 hL.tail gE gEType gU gUType Tryf.underlying26
    (fun u h => typeName_ptr_named (nm := "errors.errorString") (tp := 53) (by kernel_rfl) (by kernel_rfl) (by decide) u (h.trans (by decide))) Tryf.underlying53 Tryf.underlying55 rfl rfl Tryf.underlying9 cells55 cells9
  have hg0 : W.cell? ⟨1, 0, none⟩ = some (.iface 53 (.pointer (some aE))) := by simpa using World.var?_cell gE hv0 0
  have hg1 : W.cell? ⟨2, 0, none⟩ = some (.iface 53 (.pointer (some aU))) := by simpa using World.var?_cell gU hv1 0
  have hS : Sent W W.heap.size aE aU cE cU tE tU := ⟨hg0, hg1, hb0, hb1, World.block_lt_of_cell? W _ hc0, World.block_lt_of_cell? W _ hc1, World.block_lt_of_cell? W _ hg1, Nat.le_refl _⟩
  have hval : ∀ (j : Nat) t v, Tryf.f4.params[j]? = some t → args[j]? = some v → Value.okWide Tryf.prog W .any base t v := hval0
  have hW' := hW
  obtain ⟨p, q, hA0, hV, rfl, hfz, hnd⟩ := hW
  have hA : DataW.TrodAll enc Tryf.prog W 0 (fun _ => true) true Tryf.f4.params.toList args.toList ds p := hA0
  rw [Tryf.params4] at hA hval
  obtain ⟨v0, vs0, d0, ds0, p0, q0, hargs, rfl, rfl, h0, r0⟩ := trodAll_cons hA
  obtain ⟨v1, vs1, d1, ds1, p1, q1, rfl, rfl, rfl, h1, r1⟩ := trodAll_cons r0
  obtain ⟨rfl, rfl, rfl⟩ := trodAll_nil r1
  obtain rfl : args = #[v0, v1] := by cases args; simp_all
  obtain ⟨rfl, rfl⟩ := trodVars_none hV
  obtain ⟨a0, len0, cap0, rfl⟩ := okWide_slice Tryf.underlying30 (hval 0 30 v0 rfl rfl)
  have k0 := h0
  have lt0 : ∀ x ∈ p0, x.block < W.heap.size := by obtain ⟨m, hm⟩ := k0; exact DataW.trod_lt m _ _ _ hm
  obtain ⟨z0, w0⟩ : ∃ zs, IsRow .u8 W a0 len0 cap0 zs := by
    obtain ⟨fuel, hf⟩ := h0
    rcases open_ints Tryf.underlying30 Tryf.underlying5 (by kernel_rfl) hf with ⟨hcs, _⟩ | ⟨x, l, c, zs, hcs, _, hl, hm, hz, _, hcell, hwz⟩
    · simp [Value.cells] at hcs
      obtain ⟨rfl, rfl, rfl⟩ := hcs
      exact ⟨[], .inl ⟨rfl, rfl, rfl, rfl⟩⟩
    · simp [Value.cells] at hcs
      obtain ⟨rfl, rfl, rfl⟩ := hcs
      exact ⟨zs, .inr ⟨_, rfl, hl, hm, by simpa using hz, hcell, hwz⟩⟩
  obtain ⟨a1, len1, cap1, rfl⟩ := okWide_slice Tryf.underlying31 (hval 1 31 v1 rfl rfl)
  have k1 := h1
  have lt1 : ∀ x ∈ p1, x.block < W.heap.size := by obtain ⟨m, hm⟩ := k1; exact DataW.trod_lt m _ _ _ hm
  obtain ⟨z1, w1⟩ : ∃ zs, IsRow .i64 W a1 len1 cap1 zs := by
    obtain ⟨fuel, hf⟩ := h1
    rcases open_ints Tryf.underlying31 Tryf.underlying3 (by kernel_rfl) hf with ⟨hcs, _⟩ | ⟨x, l, c, zs, hcs, _, hl, hm, hz, _, hcell, hwz⟩
    · simp [Value.cells] at hcs
      obtain ⟨rfl, rfl, rfl⟩ := hcs
      exact ⟨[], .inl ⟨rfl, rfl, rfl, rfl⟩⟩
    · simp [Value.cells] at hcs
      obtain ⟨rfl, rfl, rfl⟩ := hcs
      exact ⟨zs, .inr ⟨_, rfl, hl, hm, by simpa using hz, hcell, hwz⟩⟩
  clear hA0 hval0 hL hL0
  obtain ⟨r0, n0⟩ := cells_of_row w0
  obtain ⟨r1, _⟩ := cells_of_row w1
  have walk : Calls Tryf.prog 4 #[.slice a0 len0 cap0, .slice a1 len1 cap1] W fun e w' => e = .returned (.bool true) ∧ Below W.heap.size W w' := by
    by_cases h : len0 + len1 ≤ 1048576 ∧ len1 ≤ 131072 ∧ len0 + 8 * len1 ≤ 1048576
    · exact law_main F.told a0 len0 cap0 _ a1 len1 cap1 _ aE aU cE cU tE tU W hF r0 n0 r1 hS h
    · exact law_early a0 len0 cap0 a1 len1 cap1 W h
  refine walk.mono fun e W' ⟨he, bel⟩ => ?_
  subst he
  exact ⟨_, rfl, _, _, _, [], _, [], hW', trodAll_mk1 (shut_bool Tryf.underlying4 _), (trodAll_cons_mk (Below.trod laidOut (by kernel_rfl) (of_decide_eq_true (by kernel_rfl)) k0 bel lt0) (trodAll_cons_mk (Below.trod laidOut (by kernel_rfl) (of_decide_eq_true (by kernel_rfl)) k1 bel lt1) trodAll_mk0)), rfl, bel.frame _, fun h => by cases h⟩

/-- THE STATEMENT -/
theorem proved : Rows.FnTakeWholeAndArrivingAgreeToldSaid :=
  Claim7.holds_of_told_tied_any_at .later 4 Tryf.f4 _ _ [] _ _ _ _ _ (by kernel_rfl) rfl rfl rfl laidOut' (by kernel_rfl) rfl ⟨rfl, rfl, rfl, rfl, rfl, rfl, rfl⟩ rfl rfl (by kernel_rfl) (by kernel_rfl) Tryf.func4 (by kernel_rfl)
    (of_decide_eq_true (by kernel_rfl)) (by unfold Func.isWrapper; first | (rw [if_pos (by decide +kernel)]; kernel_rfl) | (rw [if_neg (by decide +kernel)]; exact ⟨rfl, rfl⟩)) (by kernel_rfl) rfl stopKnobs.symm (by kernel_rfl)
    (by kernel_rfl) (by kernel_rfl) (by kernel_rfl) (by kernel_rfl) (by kernel_rfl) (by kernel_rfl) (by kernel_rfl) (by kernel_rfl) (by kernel_rfl) rfl (by kernel_rfl) rfl rfl
    rfl rfl
    rfl (by kernel_rfl) (by kernel_rfl) (by kernel_rfl) (by decide) (by kernel_rfl) fnTakeWholeAndArrivingAgree_row_tie
    (OpenClaim.moreEntering_of (by kernel_rfl) (by kernel_rfl) (by kernel_rfl) (by kernel_rfl) (by kernel_rfl) (by kernel_rfl) (by kernel_rfl) (by kernel_rfl) (by kernel_rfl) (by kernel_rfl))
    ⟨_, WideRow.started_initial, quiet _⟩
    (fun os started _ H enc _ => lifted os started H enc)
#print axioms proved
end Go.Proofs.Qxb6616877aFmt.fnTakeWholeAndArrivingAgree
