/-
  No cell of these rows narrows 'for every input' (looked for: loops, veiled, ifaces, maps, wideKeys, modest, calm, conditions, laid).
  DERIVED. THE GIVEN ROWS OF THIS SEAT. 2 by the template 'for every input the law returns true; each argument reads behind the call as it read before'; 0 by the template 'total and deterministic' (their statements: Qxb6616559aTotals.lean).
  GIVEN WITH THE SEED: the statements are not yours to turn. If you find one false, say at which input.
  Laid BY PROGRAM, IN A SANDBOX (cutbox-rows.mjs): the forced cells as the released guide's own fill.sh prints them over the translation 6b18ba96607a51c8… (all of the seat's roots in one cut). By AI agents, Wed Nov 11 2026. No macro, syntax, notation, axiom, sorry.
-/
import Derived.Test.Qxb6616559aChecked
import GoSem.Claim
import GoSem.ClaimJoined
import GoSem.ClaimMapViews
import Derived.JoinedTies
import Derived.KernelRfl
namespace Go.Proofs.Qxb6616559a
/- THE CELL 'sum', in the pinned program and in every row, IS THE sha256 OF THE DUMP (.gsa) THAT Qxb6616559aProg.lean LOADS. Nothing in Lean hashes anything: it is a label: what it is worth is what the hold of that sum in a sandbox is worth. -/
noncomputable def Try.pinned : Pinned := { name := "qxb6616559a", sum := "6b18ba96607a51c8aa7149d05e9c9920b92acf22151aed2824ac11e5ef9ddb58", checked := Try.checked }
namespace Rows
def none {H : Type} : Left H := { results := [], args := [] }

/-- 'zzlaws_root_b1.FnDelayAfterDoublesUpToTheCap': WHATEVER THE INPUT: true; the input reads as it did. -/
def fnDelayAfterDoublesUpToTheCapSpec : ChangeSpec := { name := "fnDelayAfterDoublesUpToTheCap", fn := fun _ => fun
  | [d1, d2, d3] => { results := [.lit (.bool true)], args := [d1, d2, d3] }
  | _ => none }
def fnDelayAfterDoublesUpToTheCapRow : OpenClaim := { program := "qxb6616559a", sum := "6b18ba96607a51c8aa7149d05e9c9920b92acf22151aed2824ac11e5ef9ddb58", func := "example.com/ratchet-ledger/ratchet-ledger/zzlaws_root_b1.FnDelayAfterDoublesUpToTheCap", spec := "fnDelayAfterDoublesUpToTheCap", apart := false }
def FnDelayAfterDoublesUpToTheCapSaid : Prop := fnDelayAfterDoublesUpToTheCapRow.holds Try.pinned (OpenSpec.ofChange fnDelayAfterDoublesUpToTheCapSpec)

/-- ITS FALSE NEIGHBOUR: 'it returns false'. Refute it at one input. -/
def fnDelayAfterDoublesUpToTheCapWrong : ChangeSpec := { name := "fnDelayAfterDoublesUpToTheCap", fn := fun _ => fun
  | [d1, d2, d3] => { results := [.lit (.bool false)], args := [d1, d2, d3] }
  | _ => none }
def FnDelayAfterDoublesUpToTheCapWrongFalsely : Prop := fnDelayAfterDoublesUpToTheCapRow.holds Try.pinned (OpenSpec.ofChange fnDelayAfterDoublesUpToTheCapWrong)

/-- 'zzlaws_root_b1.FnDelayAfterScalesByPowersOfTwo': WHATEVER THE INPUT: true; the input reads as it did. -/
def fnDelayAfterScalesByPowersOfTwoSpec : ChangeSpec := { name := "fnDelayAfterScalesByPowersOfTwo", fn := fun _ => fun
  | [d1, d2, d3, d4] => { results := [.lit (.bool true)], args := [d1, d2, d3, d4] }
  | _ => none }
def fnDelayAfterScalesByPowersOfTwoRow : OpenClaim := { program := "qxb6616559a", sum := "6b18ba96607a51c8aa7149d05e9c9920b92acf22151aed2824ac11e5ef9ddb58", func := "example.com/ratchet-ledger/ratchet-ledger/zzlaws_root_b1.FnDelayAfterScalesByPowersOfTwo", spec := "fnDelayAfterScalesByPowersOfTwo", apart := false }
def FnDelayAfterScalesByPowersOfTwoSaid : Prop := fnDelayAfterScalesByPowersOfTwoRow.holds Try.pinned (OpenSpec.ofChange fnDelayAfterScalesByPowersOfTwoSpec)

/-- ITS FALSE NEIGHBOUR: 'it returns false'. Refute it at one input. -/
def fnDelayAfterScalesByPowersOfTwoWrong : ChangeSpec := { name := "fnDelayAfterScalesByPowersOfTwo", fn := fun _ => fun
  | [d1, d2, d3, d4] => { results := [.lit (.bool false)], args := [d1, d2, d3, d4] }
  | _ => none }
def FnDelayAfterScalesByPowersOfTwoWrongFalsely : Prop := fnDelayAfterScalesByPowersOfTwoRow.holds Try.pinned (OpenSpec.ofChange fnDelayAfterScalesByPowersOfTwoWrong)

end Rows
end Go.Proofs.Qxb6616559a
