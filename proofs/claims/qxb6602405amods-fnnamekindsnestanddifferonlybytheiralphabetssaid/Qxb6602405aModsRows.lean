/-
  No cell of these rows narrows 'for every input' (looked for: loops, veiled, ifaces, maps, wideKeys, modest, calm, conditions, laid).
  DERIVED. THE GIVEN ROWS OF THIS SEAT. 5 by the template 'for every input the law returns true; each argument reads behind the call as it read before'; 0 by the template 'total and deterministic' (their statements: Qxb6602405aModsTotals.lean).
  GIVEN WITH THE SEED: the statements are not yours to turn. If you find one false, say at which input.
  Laid BY PROGRAM, IN A SANDBOX (cutbox-rows.mjs): the forced cells as the released guide's own fill.sh prints them over the translation 3ae2822fd7790ee2… (all of the seat's roots in one cut). By AI agents, Wed Nov 11 2026. No macro, syntax, notation, axiom, sorry.
-/
import Derived.Test.Qxb6602405aModsChecked
import GoSem.Claim
import GoSem.ClaimJoined
import GoSem.ClaimMapViews
import Derived.JoinedTies
import Derived.KernelRfl
namespace Go.Proofs.Qxb6602405aMods
/- THE CELL 'sum', in the pinned program and in every row, IS THE sha256 OF THE DUMP (.gsa) THAT Qxb6602405aModsProg.lean LOADS. Nothing in Lean hashes anything: it is a label: what it is worth is what the hold of that sum in a sandbox is worth. -/
noncomputable def Trym.pinned : Pinned := { name := "qxb6602405amods", sum := "3ae2822fd7790ee2d684afe43b9f621d31deb5806158e0e0b86b24757c85f98f", checked := Trym.checked }
namespace Rows
def none {H : Type} : Left H := { results := [], args := [] }

/-- 'zzlaws_internal_contract_b1.FnIsClassNameExactlyNonEmptyAsciiAlnum': WHATEVER THE INPUT: true; the input reads as it did. -/
def fnIsClassNameExactlyNonEmptyAsciiAlnumSpec : ChangeSpec := { name := "fnIsClassNameExactlyNonEmptyAsciiAlnum", fn := fun _ => fun
  | [d] => { results := [.lit (.bool true)], args := [d] }
  | _ => none }
def fnIsClassNameExactlyNonEmptyAsciiAlnumRow : OpenClaim := { program := "qxb6602405amods", sum := "3ae2822fd7790ee2d684afe43b9f621d31deb5806158e0e0b86b24757c85f98f", func := "example.com/tuoguan/tuoguan/zzlaws_internal_contract_b1.FnIsClassNameExactlyNonEmptyAsciiAlnum", spec := "fnIsClassNameExactlyNonEmptyAsciiAlnum", make := .lifted ["publicsums"], apart := false }
def FnIsClassNameExactlyNonEmptyAsciiAlnumSaid : Prop := fnIsClassNameExactlyNonEmptyAsciiAlnumRow.holds Trym.pinned (OpenSpec.ofChange fnIsClassNameExactlyNonEmptyAsciiAlnumSpec)

/-- ITS FALSE NEIGHBOUR: 'it returns false'. Refute it at one input. -/
def fnIsClassNameExactlyNonEmptyAsciiAlnumWrong : ChangeSpec := { name := "fnIsClassNameExactlyNonEmptyAsciiAlnum", fn := fun _ => fun
  | [d] => { results := [.lit (.bool false)], args := [d] }
  | _ => none }
def FnIsClassNameExactlyNonEmptyAsciiAlnumWrongFalsely : Prop := fnIsClassNameExactlyNonEmptyAsciiAlnumRow.holds Trym.pinned (OpenSpec.ofChange fnIsClassNameExactlyNonEmptyAsciiAlnumWrong)

/-- 'zzlaws_internal_contract_b1.FnIsLimitIDExactlyNonEmptyAsciiAlnumOrPunct': WHATEVER THE INPUT: true; the input reads as it did. -/
def fnIsLimitIDExactlyNonEmptyAsciiAlnumOrPunctSpec : ChangeSpec := { name := "fnIsLimitIDExactlyNonEmptyAsciiAlnumOrPunct", fn := fun _ => fun
  | [d] => { results := [.lit (.bool true)], args := [d] }
  | _ => none }
def fnIsLimitIDExactlyNonEmptyAsciiAlnumOrPunctRow : OpenClaim := { program := "qxb6602405amods", sum := "3ae2822fd7790ee2d684afe43b9f621d31deb5806158e0e0b86b24757c85f98f", func := "example.com/tuoguan/tuoguan/zzlaws_internal_contract_b1.FnIsLimitIDExactlyNonEmptyAsciiAlnumOrPunct", spec := "fnIsLimitIDExactlyNonEmptyAsciiAlnumOrPunct", make := .lifted ["publicsums"], apart := false }
def FnIsLimitIDExactlyNonEmptyAsciiAlnumOrPunctSaid : Prop := fnIsLimitIDExactlyNonEmptyAsciiAlnumOrPunctRow.holds Trym.pinned (OpenSpec.ofChange fnIsLimitIDExactlyNonEmptyAsciiAlnumOrPunctSpec)

/-- ITS FALSE NEIGHBOUR: 'it returns false'. Refute it at one input. -/
def fnIsLimitIDExactlyNonEmptyAsciiAlnumOrPunctWrong : ChangeSpec := { name := "fnIsLimitIDExactlyNonEmptyAsciiAlnumOrPunct", fn := fun _ => fun
  | [d] => { results := [.lit (.bool false)], args := [d] }
  | _ => none }
def FnIsLimitIDExactlyNonEmptyAsciiAlnumOrPunctWrongFalsely : Prop := fnIsLimitIDExactlyNonEmptyAsciiAlnumOrPunctRow.holds Trym.pinned (OpenSpec.ofChange fnIsLimitIDExactlyNonEmptyAsciiAlnumOrPunctWrong)

/-- 'zzlaws_internal_contract_b1.FnAllDigitsExactlyNonEmptyAsciiDigits': WHATEVER THE INPUT: true; the input reads as it did. -/
def fnAllDigitsExactlyNonEmptyAsciiDigitsSpec : ChangeSpec := { name := "fnAllDigitsExactlyNonEmptyAsciiDigits", fn := fun _ => fun
  | [d] => { results := [.lit (.bool true)], args := [d] }
  | _ => none }
def fnAllDigitsExactlyNonEmptyAsciiDigitsRow : OpenClaim := { program := "qxb6602405amods", sum := "3ae2822fd7790ee2d684afe43b9f621d31deb5806158e0e0b86b24757c85f98f", func := "example.com/tuoguan/tuoguan/zzlaws_internal_contract_b1.FnAllDigitsExactlyNonEmptyAsciiDigits", spec := "fnAllDigitsExactlyNonEmptyAsciiDigits", make := .lifted ["publicsums"], apart := false }
def FnAllDigitsExactlyNonEmptyAsciiDigitsSaid : Prop := fnAllDigitsExactlyNonEmptyAsciiDigitsRow.holds Trym.pinned (OpenSpec.ofChange fnAllDigitsExactlyNonEmptyAsciiDigitsSpec)

/-- ITS FALSE NEIGHBOUR: 'it returns false'. Refute it at one input. -/
def fnAllDigitsExactlyNonEmptyAsciiDigitsWrong : ChangeSpec := { name := "fnAllDigitsExactlyNonEmptyAsciiDigits", fn := fun _ => fun
  | [d] => { results := [.lit (.bool false)], args := [d] }
  | _ => none }
def FnAllDigitsExactlyNonEmptyAsciiDigitsWrongFalsely : Prop := fnAllDigitsExactlyNonEmptyAsciiDigitsRow.holds Trym.pinned (OpenSpec.ofChange fnAllDigitsExactlyNonEmptyAsciiDigitsWrong)

/-- 'zzlaws_internal_contract_b1.FnNameKindsNestAndDifferOnlyByTheirAlphabets': WHATEVER THE INPUT: true; the input reads as it did. -/
def fnNameKindsNestAndDifferOnlyByTheirAlphabetsSpec : ChangeSpec := { name := "fnNameKindsNestAndDifferOnlyByTheirAlphabets", fn := fun _ => fun
  | [d] => { results := [.lit (.bool true)], args := [d] }
  | _ => none }
def fnNameKindsNestAndDifferOnlyByTheirAlphabetsRow : OpenClaim := { program := "qxb6602405amods", sum := "3ae2822fd7790ee2d684afe43b9f621d31deb5806158e0e0b86b24757c85f98f", func := "example.com/tuoguan/tuoguan/zzlaws_internal_contract_b1.FnNameKindsNestAndDifferOnlyByTheirAlphabets", spec := "fnNameKindsNestAndDifferOnlyByTheirAlphabets", make := .lifted ["publicsums"], apart := false }
def FnNameKindsNestAndDifferOnlyByTheirAlphabetsSaid : Prop := fnNameKindsNestAndDifferOnlyByTheirAlphabetsRow.holds Trym.pinned (OpenSpec.ofChange fnNameKindsNestAndDifferOnlyByTheirAlphabetsSpec)

/-- ITS FALSE NEIGHBOUR: 'it returns false'. Refute it at one input. -/
def fnNameKindsNestAndDifferOnlyByTheirAlphabetsWrong : ChangeSpec := { name := "fnNameKindsNestAndDifferOnlyByTheirAlphabets", fn := fun _ => fun
  | [d] => { results := [.lit (.bool false)], args := [d] }
  | _ => none }
def FnNameKindsNestAndDifferOnlyByTheirAlphabetsWrongFalsely : Prop := fnNameKindsNestAndDifferOnlyByTheirAlphabetsRow.holds Trym.pinned (OpenSpec.ofChange fnNameKindsNestAndDifferOnlyByTheirAlphabetsWrong)

/-- 'zzlaws_internal_contract_b1.FnNameKindsSplitOverConcatenation': WHATEVER THE INPUT: true; the input reads as it did. -/
def fnNameKindsSplitOverConcatenationSpec : ChangeSpec := { name := "fnNameKindsSplitOverConcatenation", fn := fun _ => fun
  | [d1, d2] => { results := [.lit (.bool true)], args := [d1, d2] }
  | _ => none }
def fnNameKindsSplitOverConcatenationRow : OpenClaim := { program := "qxb6602405amods", sum := "3ae2822fd7790ee2d684afe43b9f621d31deb5806158e0e0b86b24757c85f98f", func := "example.com/tuoguan/tuoguan/zzlaws_internal_contract_b1.FnNameKindsSplitOverConcatenation", spec := "fnNameKindsSplitOverConcatenation", make := .lifted ["publicsums"], apart := false }
def FnNameKindsSplitOverConcatenationSaid : Prop := fnNameKindsSplitOverConcatenationRow.holds Trym.pinned (OpenSpec.ofChange fnNameKindsSplitOverConcatenationSpec)

/-- ITS FALSE NEIGHBOUR: 'it returns false'. Refute it at one input. -/
def fnNameKindsSplitOverConcatenationWrong : ChangeSpec := { name := "fnNameKindsSplitOverConcatenation", fn := fun _ => fun
  | [d1, d2] => { results := [.lit (.bool false)], args := [d1, d2] }
  | _ => none }
def FnNameKindsSplitOverConcatenationWrongFalsely : Prop := fnNameKindsSplitOverConcatenationRow.holds Trym.pinned (OpenSpec.ofChange fnNameKindsSplitOverConcatenationWrong)

end Rows
end Go.Proofs.Qxb6602405aMods
