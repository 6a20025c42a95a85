/-
  No cell of these rows narrows 'for every input' (looked for: loops, veiled, ifaces, maps, wideKeys, modest, calm, conditions, laid).
  DERIVED. THE GIVEN ROWS OF THIS SEAT. 4 by the template 'for every input the law returns true; each argument reads behind the call as it read before'; 0 by the template 'total and deterministic' (their statements: Qxb6600405aTotals.lean).
  GIVEN WITH THE SEED: the statements are not yours to turn. If you find one false, say at which input.
  Laid BY PROGRAM, IN A SANDBOX (cutbox-rows.mjs): the forced cells as the released guide's own fill.sh prints them over the translation 9ad0f6fd2c486630… (all of the seat's roots in one cut). By AI agents, Wed Nov 11 2026. No macro, syntax, notation, axiom, sorry.
-/
import Derived.Test.Qxb6600405aChecked
import GoSem.Claim
import GoSem.ClaimJoined
import GoSem.ClaimMapViews
import Derived.JoinedTies
import Derived.KernelRfl
namespace Go.Proofs.Qxb6600405a
/- THE CELL 'sum', in the pinned program and in every row, IS THE sha256 OF THE DUMP (.gsa) THAT Qxb6600405aProg.lean LOADS. Nothing in Lean hashes anything: it is a label: what it is worth is what the hold of that sum in a sandbox is worth. -/
noncomputable def Try.pinned : Pinned := { name := "qxb6600405a", sum := "9ad0f6fd2c48663041b2cf87eb5bba269822d331076a68681c80dc54d99097e2", checked := Try.checked }
namespace Rows
def none {H : Type} : Left H := { results := [], args := [] }

/-- 'zzlaws_ident_b1.FnValidMatchesCharacterModel': WHATEVER THE INPUT: true; the input reads as it did. -/
def fnValidMatchesCharacterModelSpec : ChangeSpec := { name := "fnValidMatchesCharacterModel", fn := fun _ => fun
  | [d] => { results := [.lit (.bool true)], args := [d] }
  | _ => none }
def fnValidMatchesCharacterModelRow : OpenClaim := { program := "qxb6600405a", sum := "9ad0f6fd2c48663041b2cf87eb5bba269822d331076a68681c80dc54d99097e2", func := "example.com/signalreach/signalreach/zzlaws_ident_b1.FnValidMatchesCharacterModel", spec := "fnValidMatchesCharacterModel", inPlace := ["internal/bytealg.IndexByteString"], apart := false }
def FnValidMatchesCharacterModelSaid : Prop := fnValidMatchesCharacterModelRow.holds Try.pinned (OpenSpec.ofChange fnValidMatchesCharacterModelSpec)

/-- ITS FALSE NEIGHBOUR: 'it returns false'. Refute it at one input. -/
def fnValidMatchesCharacterModelWrong : ChangeSpec := { name := "fnValidMatchesCharacterModel", fn := fun _ => fun
  | [d] => { results := [.lit (.bool false)], args := [d] }
  | _ => none }
def FnValidMatchesCharacterModelWrongFalsely : Prop := fnValidMatchesCharacterModelRow.holds Try.pinned (OpenSpec.ofChange fnValidMatchesCharacterModelWrong)

/-- 'zzlaws_ident_b1.FnValidConcatenation': WHATEVER THE INPUT: true; the input reads as it did. -/
def fnValidConcatenationSpec : ChangeSpec := { name := "fnValidConcatenation", fn := fun _ => fun
  | [d1, d2] => { results := [.lit (.bool true)], args := [d1, d2] }
  | _ => none }
def fnValidConcatenationRow : OpenClaim := { program := "qxb6600405a", sum := "9ad0f6fd2c48663041b2cf87eb5bba269822d331076a68681c80dc54d99097e2", func := "example.com/signalreach/signalreach/zzlaws_ident_b1.FnValidConcatenation", spec := "fnValidConcatenation", inPlace := ["internal/bytealg.IndexByteString"], apart := false }
def FnValidConcatenationSaid : Prop := fnValidConcatenationRow.holds Try.pinned (OpenSpec.ofChange fnValidConcatenationSpec)

/-- ITS FALSE NEIGHBOUR: 'it returns false'. Refute it at one input. -/
def fnValidConcatenationWrong : ChangeSpec := { name := "fnValidConcatenation", fn := fun _ => fun
  | [d1, d2] => { results := [.lit (.bool false)], args := [d1, d2] }
  | _ => none }
def FnValidConcatenationWrongFalsely : Prop := fnValidConcatenationRow.holds Try.pinned (OpenSpec.ofChange fnValidConcatenationWrong)

/-- 'zzlaws_ident_b1.FnTargetStringParsesBack': WHATEVER THE INPUT: true; the input reads as it did. -/
def fnTargetStringParsesBackSpec : ChangeSpec := { name := "fnTargetStringParsesBack", fn := fun _ => fun
  | [d1, d2, d3, d4] => { results := [.lit (.bool true)], args := [d1, d2, d3, d4] }
  | _ => none }
def fnTargetStringParsesBackRow : OpenClaim := { program := "qxb6600405a", sum := "9ad0f6fd2c48663041b2cf87eb5bba269822d331076a68681c80dc54d99097e2", func := "example.com/signalreach/signalreach/zzlaws_ident_b1.FnTargetStringParsesBack", spec := "fnTargetStringParsesBack", apart := false }
def FnTargetStringParsesBackSaid : Prop := fnTargetStringParsesBackRow.holds Try.pinned (OpenSpec.ofChange fnTargetStringParsesBackSpec)

/-- ITS FALSE NEIGHBOUR: 'it returns false'. Refute it at one input. -/
def fnTargetStringParsesBackWrong : ChangeSpec := { name := "fnTargetStringParsesBack", fn := fun _ => fun
  | [d1, d2, d3, d4] => { results := [.lit (.bool false)], args := [d1, d2, d3, d4] }
  | _ => none }
def FnTargetStringParsesBackWrongFalsely : Prop := fnTargetStringParsesBackRow.holds Try.pinned (OpenSpec.ofChange fnTargetStringParsesBackWrong)

/-- 'zzlaws_ident_b1.FnTargetStringIgnoresUnusedFields': WHATEVER THE INPUT: true; the input reads as it did. -/
def fnTargetStringIgnoresUnusedFieldsSpec : ChangeSpec := { name := "fnTargetStringIgnoresUnusedFields", fn := fun _ => fun
  | [d1, d2, d3, d4] => { results := [.lit (.bool true)], args := [d1, d2, d3, d4] }
  | _ => none }
def fnTargetStringIgnoresUnusedFieldsRow : OpenClaim := { program := "qxb6600405a", sum := "9ad0f6fd2c48663041b2cf87eb5bba269822d331076a68681c80dc54d99097e2", func := "example.com/signalreach/signalreach/zzlaws_ident_b1.FnTargetStringIgnoresUnusedFields", spec := "fnTargetStringIgnoresUnusedFields", apart := false }
def FnTargetStringIgnoresUnusedFieldsSaid : Prop := fnTargetStringIgnoresUnusedFieldsRow.holds Try.pinned (OpenSpec.ofChange fnTargetStringIgnoresUnusedFieldsSpec)

/-- ITS FALSE NEIGHBOUR: 'it returns false'. Refute it at one input. -/
def fnTargetStringIgnoresUnusedFieldsWrong : ChangeSpec := { name := "fnTargetStringIgnoresUnusedFields", fn := fun _ => fun
  | [d1, d2, d3, d4] => { results := [.lit (.bool false)], args := [d1, d2, d3, d4] }
  | _ => none }
def FnTargetStringIgnoresUnusedFieldsWrongFalsely : Prop := fnTargetStringIgnoresUnusedFieldsRow.holds Try.pinned (OpenSpec.ofChange fnTargetStringIgnoresUnusedFieldsWrong)

end Rows
end Go.Proofs.Qxb6600405a
