/-
  DERIVED. GIVEN WITH THE SEED: THE CARDS: each row of Qxb6616877aFmtRows.lean that lists a variable, with what it lists TIED to the program's text (the seventh form; the later family's looks); each row that meets fmt, with fmt's text TOLD by the authors' own Lean function (tested against real Go, not proved from fmt's source: count such statements apart). THE CARD IS WHAT COUNTS. Prove the row's statement (the work); the ties are given (Qxb6616877aFmtTie.lean); close each card by the builder's one call (the guide's Derived/Test/ToyasCard.lean, 'card_holds'). Laid BY PROGRAM, IN A SANDBOX (cutbox-door.mjs). By AI agents, Wed Nov 11 2026. No macro, syntax, notation, axiom, sorry.
-/
import Derived.Test.Qxb6616877aFmtRows
import GoSem.ClaimSeven
namespace Go.Proofs.Qxb6616877aFmt
namespace Rows

/-- THE TOLD CARD OF 'zzlaws_root_b1.FnSerialCompareAgreesWithCheckIncreasing'. -/
def fnSerialCompareAgreesWithCheckIncreasingCard : Claim7 := { stood := { row := fnSerialCompareAgreesWithCheckIncreasingRow, standIns := [], harness := (true, "47beb5906206bd1690acea9481669005178d5066429d25ce40082fb2069e43f3"), looks := true }, told := true, goes := false }
def FnSerialCompareAgreesWithCheckIncreasingToldSaid : Prop := Claim7.holds Tryf.pinned (.plain (OpenSpec.ofChange fnSerialCompareAgreesWithCheckIncreasingSpec)) fnSerialCompareAgreesWithCheckIncreasingCard
/-- ITS FALSE NEIGHBOUR. Refute it at one input. -/
def FnSerialCompareAgreesWithCheckIncreasingToldWrongFalsely : Prop := Claim7.holds Tryf.pinned (.plain (OpenSpec.ofChange fnSerialCompareAgreesWithCheckIncreasingWrong)) fnSerialCompareAgreesWithCheckIncreasingCard

/-- THE TOLD AND TIED CARD OF 'zzlaws_root_b1.FnTakeWholeAndArrivingAgree'. -/
def fnTakeWholeAndArrivingAgreeCard : Claim7 := { stood := { row := fnTakeWholeAndArrivingAgreeRow, standIns := [], harness := (true, "47beb5906206bd1690acea9481669005178d5066429d25ce40082fb2069e43f3"), looks := true }, told := true, laidByText := true, laidKinds := [.sentinel, .sentinel, .sentinel], laidTests := true, laidLooks := .later, goes := false }
def FnTakeWholeAndArrivingAgreeToldSaid : Prop := Claim7.holds Tryf.pinned (.plain (OpenSpec.ofChange fnTakeWholeAndArrivingAgreeSpec)) fnTakeWholeAndArrivingAgreeCard
/-- ITS FALSE NEIGHBOUR. Refute it at one input. -/
def FnTakeWholeAndArrivingAgreeToldWrongFalsely : Prop := Claim7.holds Tryf.pinned (.plain (OpenSpec.ofChange fnTakeWholeAndArrivingAgreeWrong)) fnTakeWholeAndArrivingAgreeCard
end Rows
end Go.Proofs.Qxb6616877aFmt
