/-
  No cell of these rows narrows 'for every input' (looked for: loops, veiled, ifaces, maps, wideKeys, modest, calm, conditions, laid).
  DERIVED. THE GIVEN ROWS OF THIS SEAT. 4 by the template 'for every input the law returns true; each argument reads behind the call as it read before'; 0 by the template 'total and deterministic' (their statements: Qxb6604044aTotals.lean).
  GIVEN WITH THE SEED: the statements are not yours to turn. If you find one false, say at which input.
  Laid BY PROGRAM, IN A SANDBOX (cutbox-rows.mjs): the forced cells as the released guide's own fill.sh prints them over the translation 821b0f066f897e07… (all of the seat's roots in one cut). By AI agents, Wed Nov 11 2026. No macro, syntax, notation, axiom, sorry.
-/
import Derived.Test.Qxb6604044aChecked
import GoSem.Claim
import GoSem.ClaimJoined
import GoSem.ClaimMapViews
import Derived.JoinedTies
import Derived.KernelRfl
namespace Go.Proofs.Qxb6604044a
/- THE CELL 'sum', in the pinned program and in every row, IS THE sha256 OF THE DUMP (.gsa) THAT Qxb6604044aProg.lean LOADS. Nothing in Lean hashes anything: it is a label: what it is worth is what the hold of that sum in a sandbox is worth. -/
noncomputable def Try.pinned : Pinned := { name := "qxb6604044a", sum := "821b0f066f897e0703dfa71f6ec55a2dc2e26245440a52bce34d04496059c4c8", checked := Try.checked }
namespace Rows
def none {H : Type} : Left H := { results := [], args := [] }

/-- 'zzlaws_internal_decimaltext_b1.FnParseInt64MatchesModel': WHATEVER THE INPUT: true; the input reads as it did. -/
def fnParseInt64MatchesModelSpec : ChangeSpec := { name := "fnParseInt64MatchesModel", fn := fun _ => fun
  | [d] => { results := [.lit (.bool true)], args := [d] }
  | _ => none }
def fnParseInt64MatchesModelRow : OpenClaim := { program := "qxb6604044a", sum := "821b0f066f897e0703dfa71f6ec55a2dc2e26245440a52bce34d04496059c4c8", func := "example.com/vestline/vestline/zzlaws_internal_decimaltext_b1.FnParseInt64MatchesModel", spec := "fnParseInt64MatchesModel", apart := false }
def FnParseInt64MatchesModelSaid : Prop := fnParseInt64MatchesModelRow.holds Try.pinned (OpenSpec.ofChange fnParseInt64MatchesModelSpec)

/-- ITS FALSE NEIGHBOUR: 'it returns false'. Refute it at one input. -/
def fnParseInt64MatchesModelWrong : ChangeSpec := { name := "fnParseInt64MatchesModel", fn := fun _ => fun
  | [d] => { results := [.lit (.bool false)], args := [d] }
  | _ => none }
def FnParseInt64MatchesModelWrongFalsely : Prop := fnParseInt64MatchesModelRow.holds Try.pinned (OpenSpec.ofChange fnParseInt64MatchesModelWrong)

/-- 'zzlaws_internal_decimaltext_b1.FnParseInt64AcceptsExactlyPlainUpTo18Digits': WHATEVER THE INPUT: true; the input reads as it did. -/
def fnParseInt64AcceptsExactlyPlainUpTo18DigitsSpec : ChangeSpec := { name := "fnParseInt64AcceptsExactlyPlainUpTo18Digits", fn := fun _ => fun
  | [d] => { results := [.lit (.bool true)], args := [d] }
  | _ => none }
def fnParseInt64AcceptsExactlyPlainUpTo18DigitsRow : OpenClaim := { program := "qxb6604044a", sum := "821b0f066f897e0703dfa71f6ec55a2dc2e26245440a52bce34d04496059c4c8", func := "example.com/vestline/vestline/zzlaws_internal_decimaltext_b1.FnParseInt64AcceptsExactlyPlainUpTo18Digits", spec := "fnParseInt64AcceptsExactlyPlainUpTo18Digits", inPlace := ["internal/bytealg.IndexByteString", "internal/bytealg.IndexString"], named := ["internal/bytealg.MaxLen"], apart := false }
def FnParseInt64AcceptsExactlyPlainUpTo18DigitsSaid : Prop := fnParseInt64AcceptsExactlyPlainUpTo18DigitsRow.holds Try.pinned (OpenSpec.ofChange fnParseInt64AcceptsExactlyPlainUpTo18DigitsSpec)

/-- ITS FALSE NEIGHBOUR: 'it returns false'. Refute it at one input. -/
def fnParseInt64AcceptsExactlyPlainUpTo18DigitsWrong : ChangeSpec := { name := "fnParseInt64AcceptsExactlyPlainUpTo18Digits", fn := fun _ => fun
  | [d] => { results := [.lit (.bool false)], args := [d] }
  | _ => none }
def FnParseInt64AcceptsExactlyPlainUpTo18DigitsWrongFalsely : Prop := fnParseInt64AcceptsExactlyPlainUpTo18DigitsRow.holds Try.pinned (OpenSpec.ofChange fnParseInt64AcceptsExactlyPlainUpTo18DigitsWrong)

/-- 'zzlaws_internal_decimaltext_b1.FnIsPlainMatchesStateMachine': WHATEVER THE INPUT: true; the input reads as it did. -/
def fnIsPlainMatchesStateMachineSpec : ChangeSpec := { name := "fnIsPlainMatchesStateMachine", fn := fun _ => fun
  | [d] => { results := [.lit (.bool true)], args := [d] }
  | _ => none }
def fnIsPlainMatchesStateMachineRow : OpenClaim := { program := "qxb6604044a", sum := "821b0f066f897e0703dfa71f6ec55a2dc2e26245440a52bce34d04496059c4c8", func := "example.com/vestline/vestline/zzlaws_internal_decimaltext_b1.FnIsPlainMatchesStateMachine", spec := "fnIsPlainMatchesStateMachine", inPlace := ["internal/bytealg.IndexByteString", "internal/bytealg.IndexString"], named := ["internal/bytealg.MaxLen"], apart := false }
def FnIsPlainMatchesStateMachineSaid : Prop := fnIsPlainMatchesStateMachineRow.holds Try.pinned (OpenSpec.ofChange fnIsPlainMatchesStateMachineSpec)

/-- ITS FALSE NEIGHBOUR: 'it returns false'. Refute it at one input. -/
def fnIsPlainMatchesStateMachineWrong : ChangeSpec := { name := "fnIsPlainMatchesStateMachine", fn := fun _ => fun
  | [d] => { results := [.lit (.bool false)], args := [d] }
  | _ => none }
def FnIsPlainMatchesStateMachineWrongFalsely : Prop := fnIsPlainMatchesStateMachineRow.holds Try.pinned (OpenSpec.ofChange fnIsPlainMatchesStateMachineWrong)

/-- 'zzlaws_internal_decimaltext_b1.FnIsPlainOfDotJoin': WHATEVER THE INPUT: true; the input reads as it did. -/
def fnIsPlainOfDotJoinSpec : ChangeSpec := { name := "fnIsPlainOfDotJoin", fn := fun _ => fun
  | [d1, d2] => { results := [.lit (.bool true)], args := [d1, d2] }
  | _ => none }
def fnIsPlainOfDotJoinRow : OpenClaim := { program := "qxb6604044a", sum := "821b0f066f897e0703dfa71f6ec55a2dc2e26245440a52bce34d04496059c4c8", func := "example.com/vestline/vestline/zzlaws_internal_decimaltext_b1.FnIsPlainOfDotJoin", spec := "fnIsPlainOfDotJoin", inPlace := ["internal/bytealg.IndexByteString", "internal/bytealg.IndexString"], named := ["internal/bytealg.MaxLen"], apart := false }
def FnIsPlainOfDotJoinSaid : Prop := fnIsPlainOfDotJoinRow.holds Try.pinned (OpenSpec.ofChange fnIsPlainOfDotJoinSpec)

/-- ITS FALSE NEIGHBOUR: 'it returns false'. Refute it at one input. -/
def fnIsPlainOfDotJoinWrong : ChangeSpec := { name := "fnIsPlainOfDotJoin", fn := fun _ => fun
  | [d1, d2] => { results := [.lit (.bool false)], args := [d1, d2] }
  | _ => none }
def FnIsPlainOfDotJoinWrongFalsely : Prop := fnIsPlainOfDotJoinRow.holds Try.pinned (OpenSpec.ofChange fnIsPlainOfDotJoinWrong)

end Rows
end Go.Proofs.Qxb6604044a
