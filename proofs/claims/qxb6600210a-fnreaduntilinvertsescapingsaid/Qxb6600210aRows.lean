/-
  No cell of these rows narrows 'for every input' (looked for: loops, veiled, ifaces, maps, wideKeys, modest, calm, conditions, laid).
  DERIVED. THE GIVEN ROWS OF THIS SEAT. 3 by the template 'for every input the law returns true; each argument reads behind the call as it read before'; 0 by the template 'total and deterministic' (their statements: Qxb6600210aTotals.lean).
  GIVEN WITH THE SEED: the statements are not yours to turn. If you find one false, say at which input.
  Laid BY PROGRAM, IN A SANDBOX (cutbox-rows.mjs): the forced cells as the released guide's own fill.sh prints them over the translation 9dcf486635a22955… (all of the seat's roots in one cut). By AI agents, Wed Nov 11 2026. No macro, syntax, notation, axiom, sorry.
-/
import Derived.Test.Qxb6600210aChecked
import GoSem.Claim
import GoSem.ClaimJoined
import GoSem.ClaimMapViews
import Derived.JoinedTies
import Derived.KernelRfl
namespace Go.Proofs.Qxb6600210a
/- THE CELL 'sum', in the pinned program and in every row, IS THE sha256 OF THE DUMP (.gsa) THAT Qxb6600210aProg.lean LOADS. Nothing in Lean hashes anything: it is a label: what it is worth is what the hold of that sum in a sandbox is worth. -/
noncomputable def Try.pinned : Pinned := { name := "qxb6600210a", sum := "9dcf486635a22955e4538114b25cc3727c243b559fc9540b83b26df7467e7e88", checked := Try.checked }
namespace Rows
def none {H : Type} : Left H := { results := [], args := [] }

/-- 'zzlaws_values_e1.FnReadUntilMatchesParityModel': WHATEVER THE INPUT: true; the input reads as it did. -/
def fnReadUntilMatchesParityModelSpec : ChangeSpec := { name := "fnReadUntilMatchesParityModel", fn := fun _ => fun
  | [d1, d2] => { results := [.lit (.bool true)], args := [d1, d2] }
  | _ => none }
def fnReadUntilMatchesParityModelRow : OpenClaim := { program := "qxb6600210a", sum := "9dcf486635a22955e4538114b25cc3727c243b559fc9540b83b26df7467e7e88", func := "example.com/keelson/keelson/zzlaws_values_e1.FnReadUntilMatchesParityModel", spec := "fnReadUntilMatchesParityModel", inPlace := ["internal/abi.NoEscape", "internal/bytealg.IndexByteString"], apart := false }
def FnReadUntilMatchesParityModelSaid : Prop := fnReadUntilMatchesParityModelRow.holds Try.pinned (OpenSpec.ofChange fnReadUntilMatchesParityModelSpec)

/-- ITS FALSE NEIGHBOUR: 'it returns false'. Refute it at one input. -/
def fnReadUntilMatchesParityModelWrong : ChangeSpec := { name := "fnReadUntilMatchesParityModel", fn := fun _ => fun
  | [d1, d2] => { results := [.lit (.bool false)], args := [d1, d2] }
  | _ => none }
def FnReadUntilMatchesParityModelWrongFalsely : Prop := fnReadUntilMatchesParityModelRow.holds Try.pinned (OpenSpec.ofChange fnReadUntilMatchesParityModelWrong)

/-- 'zzlaws_values_e1.FnReadUntilInvertsEscaping': WHATEVER THE INPUT: true; the input reads as it did. -/
def fnReadUntilInvertsEscapingSpec : ChangeSpec := { name := "fnReadUntilInvertsEscaping", fn := fun _ => fun
  | [d1, d2, d3] => { results := [.lit (.bool true)], args := [d1, d2, d3] }
  | _ => none }
def fnReadUntilInvertsEscapingRow : OpenClaim := { program := "qxb6600210a", sum := "9dcf486635a22955e4538114b25cc3727c243b559fc9540b83b26df7467e7e88", func := "example.com/keelson/keelson/zzlaws_values_e1.FnReadUntilInvertsEscaping", spec := "fnReadUntilInvertsEscaping", inPlace := ["internal/abi.NoEscape", "internal/bytealg.IndexByteString"], apart := false }
def FnReadUntilInvertsEscapingSaid : Prop := fnReadUntilInvertsEscapingRow.holds Try.pinned (OpenSpec.ofChange fnReadUntilInvertsEscapingSpec)

/-- ITS FALSE NEIGHBOUR: 'it returns false'. Refute it at one input. -/
def fnReadUntilInvertsEscapingWrong : ChangeSpec := { name := "fnReadUntilInvertsEscaping", fn := fun _ => fun
  | [d1, d2, d3] => { results := [.lit (.bool false)], args := [d1, d2, d3] }
  | _ => none }
def FnReadUntilInvertsEscapingWrongFalsely : Prop := fnReadUntilInvertsEscapingRow.holds Try.pinned (OpenSpec.ofChange fnReadUntilInvertsEscapingWrong)

/-- 'zzlaws_values_e1.FnReadUntilIgnoresWhatFollowsItsStop': WHATEVER THE INPUT: true; the input reads as it did. -/
def fnReadUntilIgnoresWhatFollowsItsStopSpec : ChangeSpec := { name := "fnReadUntilIgnoresWhatFollowsItsStop", fn := fun _ => fun
  | [d1, d2, d3] => { results := [.lit (.bool true)], args := [d1, d2, d3] }
  | _ => none }
def fnReadUntilIgnoresWhatFollowsItsStopRow : OpenClaim := { program := "qxb6600210a", sum := "9dcf486635a22955e4538114b25cc3727c243b559fc9540b83b26df7467e7e88", func := "example.com/keelson/keelson/zzlaws_values_e1.FnReadUntilIgnoresWhatFollowsItsStop", spec := "fnReadUntilIgnoresWhatFollowsItsStop", inPlace := ["internal/abi.NoEscape", "internal/bytealg.IndexByteString"], apart := false }
def FnReadUntilIgnoresWhatFollowsItsStopSaid : Prop := fnReadUntilIgnoresWhatFollowsItsStopRow.holds Try.pinned (OpenSpec.ofChange fnReadUntilIgnoresWhatFollowsItsStopSpec)

/-- ITS FALSE NEIGHBOUR: 'it returns false'. Refute it at one input. -/
def fnReadUntilIgnoresWhatFollowsItsStopWrong : ChangeSpec := { name := "fnReadUntilIgnoresWhatFollowsItsStop", fn := fun _ => fun
  | [d1, d2, d3] => { results := [.lit (.bool false)], args := [d1, d2, d3] }
  | _ => none }
def FnReadUntilIgnoresWhatFollowsItsStopWrongFalsely : Prop := fnReadUntilIgnoresWhatFollowsItsStopRow.holds Try.pinned (OpenSpec.ofChange fnReadUntilIgnoresWhatFollowsItsStopWrong)

end Rows
end Go.Proofs.Qxb6600210a
