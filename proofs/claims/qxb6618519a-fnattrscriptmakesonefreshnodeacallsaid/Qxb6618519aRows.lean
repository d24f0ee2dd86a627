/-
  No cell of these rows narrows 'for every input' (looked for: loops, veiled, ifaces, maps, wideKeys, modest, calm, conditions, laid).
  DERIVED. THE GIVEN ROWS OF THIS SEAT. 4 by the template 'for every input the law returns true; each argument reads behind the call as it read before'; 0 by the template 'total and deterministic' (their statements: Qxb6618519aTotals.lean).
  GIVEN WITH THE SEED: the statements are not yours to turn. If you find one false, say at which input.
  Laid BY PROGRAM, IN A SANDBOX (cutbox-rows.mjs): the forced cells as the released guide's own fill.sh prints them over the translation 13eb67bd137edda8… (all of the seat's roots in one cut). By AI agents, Wed Nov 11 2026. No macro, syntax, notation, axiom, sorry.
-/
import Derived.Test.Qxb6618519aChecked
import GoSem.Claim
import GoSem.ClaimJoined
import GoSem.ClaimMapViews
import Derived.JoinedTies
import Derived.KernelRfl
namespace Go.Proofs.Qxb6618519a
/- THE CELL 'sum', in the pinned program and in every row, IS THE sha256 OF THE DUMP (.gsa) THAT Qxb6618519aProg.lean LOADS. Nothing in Lean hashes anything: it is a label: what it is worth is what the hold of that sum in a sandbox is worth. -/
noncomputable def Try.pinned : Pinned := { name := "qxb6618519a", sum := "13eb67bd137edda8cc30b59198678ea3814cb8a46066c689019af267ee24c154", checked := Try.checked }
namespace Rows
def none {H : Type} : Left H := { results := [], args := [] }

/-- 'zzlaws_demangle_b1.FnSpacedAppendsAfterWhatIsThere': WHATEVER THE INPUT: true; the input reads as it did. -/
def fnSpacedAppendsAfterWhatIsThereSpec : ChangeSpec := { name := "fnSpacedAppendsAfterWhatIsThere", fn := fun _ => fun
  | [d1, d2, d3, d4, d5, d6, d7] => { results := [.lit (.bool true)], args := [d1, d2, d3, d4, d5, d6, d7] }
  | _ => none }
def fnSpacedAppendsAfterWhatIsThereRow : OpenClaim := { program := "qxb6618519a", sum := "13eb67bd137edda8cc30b59198678ea3814cb8a46066c689019af267ee24c154", func := "example.com/stackglass/stackglass/zzlaws_demangle_b1.FnSpacedAppendsAfterWhatIsThere", spec := "fnSpacedAppendsAfterWhatIsThere", apart := false }
def FnSpacedAppendsAfterWhatIsThereSaid : Prop := fnSpacedAppendsAfterWhatIsThereRow.holds Try.pinned (OpenSpec.ofChange fnSpacedAppendsAfterWhatIsThereSpec)

/-- ITS FALSE NEIGHBOUR: 'it returns false'. Refute it at one input. -/
def fnSpacedAppendsAfterWhatIsThereWrong : ChangeSpec := { name := "fnSpacedAppendsAfterWhatIsThere", fn := fun _ => fun
  | [d1, d2, d3, d4, d5, d6, d7] => { results := [.lit (.bool false)], args := [d1, d2, d3, d4, d5, d6, d7] }
  | _ => none }
def FnSpacedAppendsAfterWhatIsThereWrongFalsely : Prop := fnSpacedAppendsAfterWhatIsThereRow.holds Try.pinned (OpenSpec.ofChange fnSpacedAppendsAfterWhatIsThereWrong)

/-- 'zzlaws_demangle_b1.FnSpacedDecidesByFirstByteAlone': WHATEVER THE INPUT: true; the input reads as it did. -/
def fnSpacedDecidesByFirstByteAloneSpec : ChangeSpec := { name := "fnSpacedDecidesByFirstByteAlone", fn := fun _ => fun
  | [d1, d2] => { results := [.lit (.bool true)], args := [d1, d2] }
  | _ => none }
def fnSpacedDecidesByFirstByteAloneRow : OpenClaim := { program := "qxb6618519a", sum := "13eb67bd137edda8cc30b59198678ea3814cb8a46066c689019af267ee24c154", func := "example.com/stackglass/stackglass/zzlaws_demangle_b1.FnSpacedDecidesByFirstByteAlone", spec := "fnSpacedDecidesByFirstByteAlone", apart := false }
def FnSpacedDecidesByFirstByteAloneSaid : Prop := fnSpacedDecidesByFirstByteAloneRow.holds Try.pinned (OpenSpec.ofChange fnSpacedDecidesByFirstByteAloneSpec)

/-- ITS FALSE NEIGHBOUR: 'it returns false'. Refute it at one input. -/
def fnSpacedDecidesByFirstByteAloneWrong : ChangeSpec := { name := "fnSpacedDecidesByFirstByteAlone", fn := fun _ => fun
  | [d1, d2] => { results := [.lit (.bool false)], args := [d1, d2] }
  | _ => none }
def FnSpacedDecidesByFirstByteAloneWrongFalsely : Prop := fnSpacedDecidesByFirstByteAloneRow.holds Try.pinned (OpenSpec.ofChange fnSpacedDecidesByFirstByteAloneWrong)

/-- 'zzlaws_demangle_b1.FnV0EnterRaisesDepthByOneACall': WHATEVER THE INPUT: true; the input reads as it did. -/
def fnV0EnterRaisesDepthByOneACallSpec : ChangeSpec := { name := "fnV0EnterRaisesDepthByOneACall", fn := fun _ => fun
  | [d1, d2, d3, d4, d5, d6, d7, d8, d9] => { results := [.lit (.bool true)], args := [d1, d2, d3, d4, d5, d6, d7, d8, d9] }
  | _ => none }
def fnV0EnterRaisesDepthByOneACallRow : OpenClaim := { program := "qxb6618519a", sum := "13eb67bd137edda8cc30b59198678ea3814cb8a46066c689019af267ee24c154", func := "example.com/stackglass/stackglass/zzlaws_demangle_b1.FnV0EnterRaisesDepthByOneACall", spec := "fnV0EnterRaisesDepthByOneACall", apart := false }
def FnV0EnterRaisesDepthByOneACallSaid : Prop := fnV0EnterRaisesDepthByOneACallRow.holds Try.pinned (OpenSpec.ofChange fnV0EnterRaisesDepthByOneACallSpec)

/-- ITS FALSE NEIGHBOUR: 'it returns false'. Refute it at one input. -/
def fnV0EnterRaisesDepthByOneACallWrong : ChangeSpec := { name := "fnV0EnterRaisesDepthByOneACall", fn := fun _ => fun
  | [d1, d2, d3, d4, d5, d6, d7, d8, d9] => { results := [.lit (.bool false)], args := [d1, d2, d3, d4, d5, d6, d7, d8, d9] }
  | _ => none }
def FnV0EnterRaisesDepthByOneACallWrongFalsely : Prop := fnV0EnterRaisesDepthByOneACallRow.holds Try.pinned (OpenSpec.ofChange fnV0EnterRaisesDepthByOneACallWrong)

/-- 'zzlaws_demangle_b1.FnAttrScriptMakesOneFreshNodeACall': WHATEVER THE INPUT: true; the input reads as it did. -/
def fnAttrScriptMakesOneFreshNodeACallSpec : ChangeSpec := { name := "fnAttrScriptMakesOneFreshNodeACall", fn := fun _ => fun
  | [d1, d2, d3, d4, d5, d6, d7] => { results := [.lit (.bool true)], args := [d1, d2, d3, d4, d5, d6, d7] }
  | _ => none }
def fnAttrScriptMakesOneFreshNodeACallRow : OpenClaim := { program := "qxb6618519a", sum := "13eb67bd137edda8cc30b59198678ea3814cb8a46066c689019af267ee24c154", func := "example.com/stackglass/stackglass/zzlaws_demangle_b1.FnAttrScriptMakesOneFreshNodeACall", spec := "fnAttrScriptMakesOneFreshNodeACall", apart := false }
def FnAttrScriptMakesOneFreshNodeACallSaid : Prop := fnAttrScriptMakesOneFreshNodeACallRow.holds Try.pinned (OpenSpec.ofChange fnAttrScriptMakesOneFreshNodeACallSpec)

/-- ITS FALSE NEIGHBOUR: 'it returns false'. Refute it at one input. -/
def fnAttrScriptMakesOneFreshNodeACallWrong : ChangeSpec := { name := "fnAttrScriptMakesOneFreshNodeACall", fn := fun _ => fun
  | [d1, d2, d3, d4, d5, d6, d7] => { results := [.lit (.bool false)], args := [d1, d2, d3, d4, d5, d6, d7] }
  | _ => none }
def FnAttrScriptMakesOneFreshNodeACallWrongFalsely : Prop := fnAttrScriptMakesOneFreshNodeACallRow.holds Try.pinned (OpenSpec.ofChange fnAttrScriptMakesOneFreshNodeACallWrong)

end Rows
end Go.Proofs.Qxb6618519a
