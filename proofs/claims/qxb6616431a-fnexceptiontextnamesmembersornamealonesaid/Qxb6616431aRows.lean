/-
  No cell of these rows narrows 'for every input' (looked for: loops, veiled, ifaces, maps, wideKeys, modest, calm, conditions, laid).
  DERIVED. THE GIVEN ROWS OF THIS SEAT. 3 by the template 'for every input the law returns true; each argument reads behind the call as it read before'; 0 by the template 'total and deterministic' (their statements: Qxb6616431aTotals.lean).
  GIVEN WITH THE SEED: the statements are not yours to turn. If you find one false, say at which input.
  Laid BY PROGRAM, IN A SANDBOX (cutbox-rows.mjs): the forced cells as the released guide's own fill.sh prints them over the translation 1b25376edf8a91c7… (all of the seat's roots in one cut). By AI agents, Wed Nov 11 2026. No macro, syntax, notation, axiom, sorry.
-/
import Derived.Test.Qxb6616431aChecked
import GoSem.Claim
import GoSem.ClaimJoined
import GoSem.ClaimMapViews
import Derived.JoinedTies
import Derived.KernelRfl
namespace Go.Proofs.Qxb6616431a
/- THE CELL 'sum', in the pinned program and in every row, IS THE sha256 OF THE DUMP (.gsa) THAT Qxb6616431aProg.lean LOADS. Nothing in Lean hashes anything: it is a label: what it is worth is what the hold of that sum in a sandbox is worth. -/
noncomputable def Try.pinned : Pinned := { name := "qxb6616431a", sum := "1b25376edf8a91c7674b5941382f87b1d35d8b930e91717d0eeb69deda4ec356", checked := Try.checked }
namespace Rows
def none {H : Type} : Left H := { results := [], args := [] }

/-- 'zzlaws_idljson_b1.FnEndCarriesPrefixBeforeMembers': WHATEVER THE INPUT: true; the input reads as it did. -/
def fnEndCarriesPrefixBeforeMembersSpec : ChangeSpec := { name := "fnEndCarriesPrefixBeforeMembers", fn := fun _ => fun
  | [d1, d2] => { results := [.lit (.bool true)], args := [d1, d2] }
  | _ => none }
def fnEndCarriesPrefixBeforeMembersRow : OpenClaim := { program := "qxb6616431a", sum := "1b25376edf8a91c7674b5941382f87b1d35d8b930e91717d0eeb69deda4ec356", func := "example.com/wirecall/wirecall/zzlaws_idljson_b1.FnEndCarriesPrefixBeforeMembers", spec := "fnEndCarriesPrefixBeforeMembers", apart := false }
def FnEndCarriesPrefixBeforeMembersSaid : Prop := fnEndCarriesPrefixBeforeMembersRow.holds Try.pinned (OpenSpec.ofChange fnEndCarriesPrefixBeforeMembersSpec)

/-- ITS FALSE NEIGHBOUR: 'it returns false'. Refute it at one input. -/
def fnEndCarriesPrefixBeforeMembersWrong : ChangeSpec := { name := "fnEndCarriesPrefixBeforeMembers", fn := fun _ => fun
  | [d1, d2] => { results := [.lit (.bool false)], args := [d1, d2] }
  | _ => none }
def FnEndCarriesPrefixBeforeMembersWrongFalsely : Prop := fnEndCarriesPrefixBeforeMembersRow.holds Try.pinned (OpenSpec.ofChange fnEndCarriesPrefixBeforeMembersWrong)

/-- 'zzlaws_idljson_b1.FnExceptionTextNamesMembersOrNameAlone': WHATEVER THE INPUT: true; the input reads as it did. -/
def fnExceptionTextNamesMembersOrNameAloneSpec : ChangeSpec := { name := "fnExceptionTextNamesMembersOrNameAlone", fn := fun _ => fun
  | [d1, d2] => { results := [.lit (.bool true)], args := [d1, d2] }
  | _ => none }
def fnExceptionTextNamesMembersOrNameAloneRow : OpenClaim := { program := "qxb6616431a", sum := "1b25376edf8a91c7674b5941382f87b1d35d8b930e91717d0eeb69deda4ec356", func := "example.com/wirecall/wirecall/zzlaws_idljson_b1.FnExceptionTextNamesMembersOrNameAlone", spec := "fnExceptionTextNamesMembersOrNameAlone", unfollowed := true, recurses := true, apart := false }
def FnExceptionTextNamesMembersOrNameAloneSaid : Prop := fnExceptionTextNamesMembersOrNameAloneRow.holds Try.pinned (OpenSpec.ofChange fnExceptionTextNamesMembersOrNameAloneSpec)

/-- ITS FALSE NEIGHBOUR: 'it returns false'. Refute it at one input. -/
def fnExceptionTextNamesMembersOrNameAloneWrong : ChangeSpec := { name := "fnExceptionTextNamesMembersOrNameAlone", fn := fun _ => fun
  | [d1, d2] => { results := [.lit (.bool false)], args := [d1, d2] }
  | _ => none }
def FnExceptionTextNamesMembersOrNameAloneWrongFalsely : Prop := fnExceptionTextNamesMembersOrNameAloneRow.holds Try.pinned (OpenSpec.ofChange fnExceptionTextNamesMembersOrNameAloneWrong)

/-- 'zzlaws_idljson_b1.FnExceptionTextDropsMembersOfFailedObject': WHATEVER THE INPUT: true; the input reads as it did. -/
def fnExceptionTextDropsMembersOfFailedObjectSpec : ChangeSpec := { name := "fnExceptionTextDropsMembersOfFailedObject", fn := fun _ => fun
  | [d1, d2] => { results := [.lit (.bool true)], args := [d1, d2] }
  | _ => none }
def fnExceptionTextDropsMembersOfFailedObjectRow : OpenClaim := { program := "qxb6616431a", sum := "1b25376edf8a91c7674b5941382f87b1d35d8b930e91717d0eeb69deda4ec356", func := "example.com/wirecall/wirecall/zzlaws_idljson_b1.FnExceptionTextDropsMembersOfFailedObject", spec := "fnExceptionTextDropsMembersOfFailedObject", unfollowed := true, recurses := true, apart := false }
def FnExceptionTextDropsMembersOfFailedObjectSaid : Prop := fnExceptionTextDropsMembersOfFailedObjectRow.holds Try.pinned (OpenSpec.ofChange fnExceptionTextDropsMembersOfFailedObjectSpec)

/-- ITS FALSE NEIGHBOUR: 'it returns false'. Refute it at one input. -/
def fnExceptionTextDropsMembersOfFailedObjectWrong : ChangeSpec := { name := "fnExceptionTextDropsMembersOfFailedObject", fn := fun _ => fun
  | [d1, d2] => { results := [.lit (.bool false)], args := [d1, d2] }
  | _ => none }
def FnExceptionTextDropsMembersOfFailedObjectWrongFalsely : Prop := fnExceptionTextDropsMembersOfFailedObjectRow.holds Try.pinned (OpenSpec.ofChange fnExceptionTextDropsMembersOfFailedObjectWrong)

end Rows
end Go.Proofs.Qxb6616431a
