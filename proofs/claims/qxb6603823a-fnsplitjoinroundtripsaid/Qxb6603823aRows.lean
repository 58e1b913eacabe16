/-
  No cell of these rows narrows 'for every input' (looked for: loops, veiled, ifaces, maps, wideKeys, modest, calm, conditions, laid).
  DERIVED. THE GIVEN ROWS OF THIS SEAT. 3 by the template 'for every input the law returns true; each argument reads behind the call as it read before'; 0 by the template 'total and deterministic' (their statements: Qxb6603823aTotals.lean).
  GIVEN WITH THE SEED: the statements are not yours to turn. If you find one false, say at which input.
  Laid BY PROGRAM, IN A SANDBOX (cutbox-rows.mjs): the forced cells as the released guide's own fill.sh prints them over the translation 2b4c0b5cacb129e1… (all of the seat's roots in one cut). By AI agents, Wed Nov 11 2026. No macro, syntax, notation, axiom, sorry.
-/
import Derived.Test.Qxb6603823aChecked
import GoSem.Claim
import GoSem.ClaimJoined
import GoSem.ClaimMapViews
import Derived.JoinedTies
import Derived.KernelRfl
namespace Go.Proofs.Qxb6603823a
/- THE CELL 'sum', in the pinned program and in every row, IS THE sha256 OF THE DUMP (.gsa) THAT Qxb6603823aProg.lean LOADS. Nothing in Lean hashes anything: it is a label: what it is worth is what the hold of that sum in a sandbox is worth. -/
noncomputable def Try.pinned : Pinned := { name := "qxb6603823a", sum := "2b4c0b5cacb129e1b6a1f1c1426bbb121c0476c444dad4f80ccbfbd64d9f2cde", checked := Try.checked }
namespace Rows
def none {H : Type} : Left H := { results := [], args := [] }

/-- 'zzlaws_internal_xmlscan_b1.FnNameRuneStartImpliesName': WHATEVER THE INPUT: true; the input reads as it did. -/
def fnNameRuneStartImpliesNameSpec : ChangeSpec := { name := "fnNameRuneStartImpliesName", fn := fun _ => fun
  | [d] => { results := [.lit (.bool true)], args := [d] }
  | _ => none }
def fnNameRuneStartImpliesNameRow : OpenClaim := { program := "qxb6603823a", sum := "2b4c0b5cacb129e1b6a1f1c1426bbb121c0476c444dad4f80ccbfbd64d9f2cde", func := "example.com/vestrule/vestrule/zzlaws_internal_xmlscan_b1.FnNameRuneStartImpliesName", spec := "fnNameRuneStartImpliesName", apart := false }
def FnNameRuneStartImpliesNameSaid : Prop := fnNameRuneStartImpliesNameRow.holds Try.pinned (OpenSpec.ofChange fnNameRuneStartImpliesNameSpec)

/-- ITS FALSE NEIGHBOUR: 'it returns false'. Refute it at one input. -/
def fnNameRuneStartImpliesNameWrong : ChangeSpec := { name := "fnNameRuneStartImpliesName", fn := fun _ => fun
  | [d] => { results := [.lit (.bool false)], args := [d] }
  | _ => none }
def FnNameRuneStartImpliesNameWrongFalsely : Prop := fnNameRuneStartImpliesNameRow.holds Try.pinned (OpenSpec.ofChange fnNameRuneStartImpliesNameWrong)

/-- 'zzlaws_internal_xmlscan_b1.FnSplitExactCharacterisation': WHATEVER THE INPUT: true; the input reads as it did. -/
def fnSplitExactCharacterisationSpec : ChangeSpec := { name := "fnSplitExactCharacterisation", fn := fun _ => fun
  | [d] => { results := [.lit (.bool true)], args := [d] }
  | _ => none }
def fnSplitExactCharacterisationRow : OpenClaim := { program := "qxb6603823a", sum := "2b4c0b5cacb129e1b6a1f1c1426bbb121c0476c444dad4f80ccbfbd64d9f2cde", func := "example.com/vestrule/vestrule/zzlaws_internal_xmlscan_b1.FnSplitExactCharacterisation", spec := "fnSplitExactCharacterisation", inPlace := ["internal/bytealg.IndexByte"], apart := false }
def FnSplitExactCharacterisationSaid : Prop := fnSplitExactCharacterisationRow.holds Try.pinned (OpenSpec.ofChange fnSplitExactCharacterisationSpec)

/-- ITS FALSE NEIGHBOUR: 'it returns false'. Refute it at one input. -/
def fnSplitExactCharacterisationWrong : ChangeSpec := { name := "fnSplitExactCharacterisation", fn := fun _ => fun
  | [d] => { results := [.lit (.bool false)], args := [d] }
  | _ => none }
def FnSplitExactCharacterisationWrongFalsely : Prop := fnSplitExactCharacterisationRow.holds Try.pinned (OpenSpec.ofChange fnSplitExactCharacterisationWrong)

/-- 'zzlaws_internal_xmlscan_b1.FnSplitJoinRoundTrip': WHATEVER THE INPUT: true; the input reads as it did. -/
def fnSplitJoinRoundTripSpec : ChangeSpec := { name := "fnSplitJoinRoundTrip", fn := fun _ => fun
  | [d1, d2] => { results := [.lit (.bool true)], args := [d1, d2] }
  | _ => none }
def fnSplitJoinRoundTripRow : OpenClaim := { program := "qxb6603823a", sum := "2b4c0b5cacb129e1b6a1f1c1426bbb121c0476c444dad4f80ccbfbd64d9f2cde", func := "example.com/vestrule/vestrule/zzlaws_internal_xmlscan_b1.FnSplitJoinRoundTrip", spec := "fnSplitJoinRoundTrip", inPlace := ["internal/bytealg.IndexByte"], apart := false }
def FnSplitJoinRoundTripSaid : Prop := fnSplitJoinRoundTripRow.holds Try.pinned (OpenSpec.ofChange fnSplitJoinRoundTripSpec)

/-- ITS FALSE NEIGHBOUR: 'it returns false'. Refute it at one input. -/
def fnSplitJoinRoundTripWrong : ChangeSpec := { name := "fnSplitJoinRoundTrip", fn := fun _ => fun
  | [d1, d2] => { results := [.lit (.bool false)], args := [d1, d2] }
  | _ => none }
def FnSplitJoinRoundTripWrongFalsely : Prop := fnSplitJoinRoundTripRow.holds Try.pinned (OpenSpec.ofChange fnSplitJoinRoundTripWrong)

end Rows
end Go.Proofs.Qxb6603823a
