/-
  No cell of these rows narrows 'for every input' (looked for: loops, veiled, ifaces, maps, wideKeys, modest, calm, conditions, laid).
  DERIVED. THE GIVEN ROWS OF THIS SEAT. 2 by the template 'for every input the law returns true; each argument reads behind the call as it read before'; 0 by the template 'total and deterministic' (their statements: Qxb6600745aTotals.lean).
  GIVEN WITH THE SEED: the statements are not yours to turn. If you find one false, say at which input.
  Laid BY PROGRAM, IN A SANDBOX (cutbox-rows.mjs): the forced cells as the released guide's own fill.sh prints them over the translation 0512a92759b8e881… (all of the seat's roots in one cut). By AI agents, Wed Nov 11 2026. No macro, syntax, notation, axiom, sorry.
-/
import Derived.Test.Qxb6600745aChecked
import GoSem.Claim
import GoSem.ClaimJoined
import GoSem.ClaimMapViews
import Derived.JoinedTies
import Derived.KernelRfl
namespace Go.Proofs.Qxb6600745a
/- THE CELL 'sum', in the pinned program and in every row, IS THE sha256 OF THE DUMP (.gsa) THAT Qxb6600745aProg.lean LOADS. Nothing in Lean hashes anything: it is a label: what it is worth is what the hold of that sum in a sandbox is worth. -/
noncomputable def Try.pinned : Pinned := { name := "qxb6600745a", sum := "0512a92759b8e8816cf9ca2a41f76110b53ab9ea570952f12a369ab87ff599eb", checked := Try.checked }
namespace Rows
def none {H : Type} : Left H := { results := [], args := [] }

/-- 'zzlaws_internal_ruleset_b1.FnStringEndMatchesScanner': WHATEVER THE INPUT: true; the input reads as it did. -/
def fnStringEndMatchesScannerSpec : ChangeSpec := { name := "fnStringEndMatchesScanner", fn := fun _ => fun
  | [d1, d2] => { results := [.lit (.bool true)], args := [d1, d2] }
  | _ => none }
def fnStringEndMatchesScannerRow : OpenClaim := { program := "qxb6600745a", sum := "0512a92759b8e8816cf9ca2a41f76110b53ab9ea570952f12a369ab87ff599eb", func := "example.com/portcullis/portcullis/zzlaws_internal_ruleset_b1.FnStringEndMatchesScanner", spec := "fnStringEndMatchesScanner", inPlace := ["internal/bytealg.IndexByte"], apart := false }
def FnStringEndMatchesScannerSaid : Prop := fnStringEndMatchesScannerRow.holds Try.pinned (OpenSpec.ofChange fnStringEndMatchesScannerSpec)

/-- ITS FALSE NEIGHBOUR: 'it returns false'. Refute it at one input. -/
def fnStringEndMatchesScannerWrong : ChangeSpec := { name := "fnStringEndMatchesScanner", fn := fun _ => fun
  | [d1, d2] => { results := [.lit (.bool false)], args := [d1, d2] }
  | _ => none }
def FnStringEndMatchesScannerWrongFalsely : Prop := fnStringEndMatchesScannerRow.holds Try.pinned (OpenSpec.ofChange fnStringEndMatchesScannerWrong)

/-- 'zzlaws_internal_ruleset_b1.FnStringEndFindsEncodedEnd': WHATEVER THE INPUT: true; the input reads as it did. -/
def fnStringEndFindsEncodedEndSpec : ChangeSpec := { name := "fnStringEndFindsEncodedEnd", fn := fun _ => fun
  | [d1, d2, d3] => { results := [.lit (.bool true)], args := [d1, d2, d3] }
  | _ => none }
def fnStringEndFindsEncodedEndRow : OpenClaim := { program := "qxb6600745a", sum := "0512a92759b8e8816cf9ca2a41f76110b53ab9ea570952f12a369ab87ff599eb", func := "example.com/portcullis/portcullis/zzlaws_internal_ruleset_b1.FnStringEndFindsEncodedEnd", spec := "fnStringEndFindsEncodedEnd", inPlace := ["internal/bytealg.IndexByte"], apart := false }
def FnStringEndFindsEncodedEndSaid : Prop := fnStringEndFindsEncodedEndRow.holds Try.pinned (OpenSpec.ofChange fnStringEndFindsEncodedEndSpec)

/-- ITS FALSE NEIGHBOUR: 'it returns false'. Refute it at one input. -/
def fnStringEndFindsEncodedEndWrong : ChangeSpec := { name := "fnStringEndFindsEncodedEnd", fn := fun _ => fun
  | [d1, d2, d3] => { results := [.lit (.bool false)], args := [d1, d2, d3] }
  | _ => none }
def FnStringEndFindsEncodedEndWrongFalsely : Prop := fnStringEndFindsEncodedEndRow.holds Try.pinned (OpenSpec.ofChange fnStringEndFindsEncodedEndWrong)

end Rows
end Go.Proofs.Qxb6600745a
