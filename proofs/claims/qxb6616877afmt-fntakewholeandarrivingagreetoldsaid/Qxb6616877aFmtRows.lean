/-
  NARROWER THAN 'FOR EVERY INPUT', by the rows' own cells (each row's printed sentence says how): FnTakeWholeAndArrivingAgree: laid.
  DERIVED. THE GIVEN ROWS OF THIS SEAT. 2 by the template 'for every input the law returns true; each argument reads behind the call as it read before'; 0 by the template 'total and deterministic' (their statements: Qxb6616877aFmtTotals.lean).
  GIVEN WITH THE SEED: the statements are not yours to turn. If you find one false, say at which input.
  Laid BY PROGRAM, IN A SANDBOX (cutbox-rows.mjs): the forced cells as the released guide's own fill.sh prints them over the translation 21ed7ec25df1e601… (all of the seat's roots in one cut). By AI agents, Wed Nov 11 2026. No macro, syntax, notation, axiom, sorry.
-/
import Derived.Test.Qxb6616877aFmtChecked
import GoSem.Claim
import GoSem.ClaimJoined
import GoSem.ClaimMapViews
import Derived.JoinedTies
import Derived.KernelRfl
namespace Go.Proofs.Qxb6616877aFmt
/- THE CELL 'sum', in the pinned program and in every row, IS THE sha256 OF THE DUMP (.gsa) THAT Qxb6616877aFmtProg.lean LOADS. Nothing in Lean hashes anything: it is a label: what it is worth is what the hold of that sum in a sandbox is worth. -/
noncomputable def Tryf.pinned : Pinned := { name := "qxb6616877afmt", sum := "21ed7ec25df1e60192d8a51f7162f7a66c88cf3462a77d5fb694c66804368029", checked := Tryf.checked }
namespace Rows
def none {H : Type} : Left H := { results := [], args := [] }

/- WHAT THE LISTED PACKAGE-LEVEL VARIABLES READ AS WHEN THE CALL BEGINS. Each datum BY PROGRAM (the guide's laid-datum.mjs) off the statement by which the dump's own 'gosem.cut.vars' lays the variable. In a bare row this is a premise. The card (Qxb6616877aFmtCards.lean) ties it to the program's text. -/
def laid_io_ErrShortBuffer {H : Type} : DataW H := .iface "*errors.errorString" (.ptr (.agg [.lit (.string [115, 104, 111, 114, 116, 32, 98, 117, 102, 102, 101, 114])]))
def laid_io_EOF {H : Type} : DataW H := .iface "*errors.errorString" (.ptr (.agg [.lit (.string [69, 79, 70])]))
def laid_io_ErrUnexpectedEOF {H : Type} : DataW H := .iface "*errors.errorString" (.ptr (.agg [.lit (.string [117, 110, 101, 120, 112, 101, 99, 116, 101, 100, 32, 69, 79, 70])]))

/-- 'zzlaws_root_b1.FnSerialCompareAgreesWithCheckIncreasing': WHATEVER THE INPUT: true; the input reads as it did. -/
def fnSerialCompareAgreesWithCheckIncreasingSpec : ChangeSpec := { name := "fnSerialCompareAgreesWithCheckIncreasing", fn := fun _ => fun
  | [d1, d2] => { results := [.lit (.bool true)], args := [d1, d2] }
  | _ => none }
def fnSerialCompareAgreesWithCheckIncreasingRow : OpenClaim := { program := "qxb6616877afmt", sum := "21ed7ec25df1e60192d8a51f7162f7a66c88cf3462a77d5fb694c66804368029", func := "example.com/proofleaf/proofleaf/zzlaws_root_b1.FnSerialCompareAgreesWithCheckIncreasing", spec := "fnSerialCompareAgreesWithCheckIncreasing", stops := ["fmt.errorf, its operands' methods called", "fmt.Sprintf, its operands' methods called"], inPlace := ["internal/bytealg.Compare", "fmt.errorf"], unfollowed := true, recurses := true, apart := false }
/-- NO THEOREM (fmt's text is open here; it may be false): for the released tool's asking of the row's closed facts alone. THE STATEMENT IS 'FnSerialCompareAgreesWithCheckIncreasingToldSaid' (Qxb6616877aFmtCards.lean). -/
def FnSerialCompareAgreesWithCheckIncreasingFormAsk : Prop := fnSerialCompareAgreesWithCheckIncreasingRow.holds Tryf.pinned (OpenSpec.ofChange fnSerialCompareAgreesWithCheckIncreasingSpec)

/-- ITS FALSE NEIGHBOUR: 'it returns false'. Refute it at one input. -/
def fnSerialCompareAgreesWithCheckIncreasingWrong : ChangeSpec := { name := "fnSerialCompareAgreesWithCheckIncreasing", fn := fun _ => fun
  | [d1, d2] => { results := [.lit (.bool false)], args := [d1, d2] }
  | _ => none }
def FnSerialCompareAgreesWithCheckIncreasingWrongFormAsk : Prop := fnSerialCompareAgreesWithCheckIncreasingRow.holds Tryf.pinned (OpenSpec.ofChange fnSerialCompareAgreesWithCheckIncreasingWrong)

/-- 'zzlaws_root_b1.FnTakeWholeAndArrivingAgree': WHATEVER THE INPUT: true; the input reads as it did. -/
def fnTakeWholeAndArrivingAgreeSpec : ChangeSpec := { name := "fnTakeWholeAndArrivingAgree", fn := fun _ => fun
  | [d1, d2] => { results := [.lit (.bool true)], args := [d1, d2] }
  | _ => none }
def fnTakeWholeAndArrivingAgreeRow : OpenClaim := { program := "qxb6616877afmt", sum := "21ed7ec25df1e60192d8a51f7162f7a66c88cf3462a77d5fb694c66804368029", func := "example.com/proofleaf/proofleaf/zzlaws_root_b1.FnTakeWholeAndArrivingAgree", spec := "fnTakeWholeAndArrivingAgree", stops := ["fmt.errorf, its operands' methods called", "fmt.Sprintf, its operands' methods called"], inPlace := ["internal/reflectlite.TypeOf", "fmt.Sprintf", "fmt.errorf"], unfollowed := true, recurses := true, named := ["io.EOF", "io.ErrUnexpectedEOF", "io.ErrShortBuffer"], apart := false, laid := [("io.ErrShortBuffer", laid_io_ErrShortBuffer), ("io.EOF", laid_io_EOF), ("io.ErrUnexpectedEOF", laid_io_ErrUnexpectedEOF)] }
/-- NO THEOREM (fmt's text is open here; it may be false): for the released tool's asking of the row's closed facts alone. THE STATEMENT IS 'FnTakeWholeAndArrivingAgreeToldSaid' (Qxb6616877aFmtCards.lean). -/
def FnTakeWholeAndArrivingAgreeFormAsk : Prop := fnTakeWholeAndArrivingAgreeRow.holds Tryf.pinned (OpenSpec.ofChange fnTakeWholeAndArrivingAgreeSpec)

/-- ITS FALSE NEIGHBOUR: 'it returns false'. Refute it at one input. -/
def fnTakeWholeAndArrivingAgreeWrong : ChangeSpec := { name := "fnTakeWholeAndArrivingAgree", fn := fun _ => fun
  | [d1, d2] => { results := [.lit (.bool false)], args := [d1, d2] }
  | _ => none }
def FnTakeWholeAndArrivingAgreeWrongFormAsk : Prop := fnTakeWholeAndArrivingAgreeRow.holds Tryf.pinned (OpenSpec.ofChange fnTakeWholeAndArrivingAgreeWrong)

end Rows
end Go.Proofs.Qxb6616877aFmt
