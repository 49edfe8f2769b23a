/-
  No cell of these rows narrows 'for every input' (looked for: loops, veiled, ifaces, maps, wideKeys, modest, calm, conditions, laid).
  DERIVED. THE GIVEN ROWS OF THIS SEAT. 6 by the template 'for every input the law returns true; each argument reads behind the call as it read before'; 0 by the template 'total and deterministic' (their statements: Qxb6602524aModsTotals.lean).
  GIVEN WITH THE SEED: the statements are not yours to turn. If you find one false, say at which input.
  Laid BY PROGRAM, IN A SANDBOX (cutbox-rows.mjs): the forced cells as the released guide's own fill.sh prints them over the translation 57d4007ed852f7e6… (all of the seat's roots in one cut). By AI agents, Wed Nov 11 2026. No macro, syntax, notation, axiom, sorry.
-/
import Derived.Test.Qxb6602524aModsChecked
import GoSem.Claim
import GoSem.ClaimJoined
import GoSem.ClaimMapViews
import Derived.JoinedTies
import Derived.KernelRfl
namespace Go.Proofs.Qxb6602524aMods
/- THE CELL 'sum', in the pinned program and in every row, IS THE sha256 OF THE DUMP (.gsa) THAT Qxb6602524aModsProg.lean LOADS. Nothing in Lean hashes anything: it is a label: what it is worth is what the hold of that sum in a sandbox is worth. -/
noncomputable def Trym.pinned : Pinned := { name := "qxb6602524amods", sum := "57d4007ed852f7e65d015a5729aab6eac12124b3812075f66a6bc365d4fc7eef", checked := Trym.checked }
namespace Rows
def none {H : Type} : Left H := { results := [], args := [] }

/-- 'zzlaws_root_b1.FnValidEntryNameAlphabetModel': WHATEVER THE INPUT: true; the input reads as it did. -/
def fnValidEntryNameAlphabetModelSpec : ChangeSpec := { name := "fnValidEntryNameAlphabetModel", fn := fun _ => fun
  | [d] => { results := [.lit (.bool true)], args := [d] }
  | _ => none }
def fnValidEntryNameAlphabetModelRow : OpenClaim := { program := "qxb6602524amods", sum := "57d4007ed852f7e65d015a5729aab6eac12124b3812075f66a6bc365d4fc7eef", func := "example.com/cofferlink/cofferlink/zzlaws_root_b1.FnValidEntryNameAlphabetModel", spec := "fnValidEntryNameAlphabetModel", make := .lifted ["publicsums"], apart := false }
def FnValidEntryNameAlphabetModelSaid : Prop := fnValidEntryNameAlphabetModelRow.holds Trym.pinned (OpenSpec.ofChange fnValidEntryNameAlphabetModelSpec)

/-- ITS FALSE NEIGHBOUR: 'it returns false'. Refute it at one input. -/
def fnValidEntryNameAlphabetModelWrong : ChangeSpec := { name := "fnValidEntryNameAlphabetModel", fn := fun _ => fun
  | [d] => { results := [.lit (.bool false)], args := [d] }
  | _ => none }
def FnValidEntryNameAlphabetModelWrongFalsely : Prop := fnValidEntryNameAlphabetModelRow.holds Trym.pinned (OpenSpec.ofChange fnValidEntryNameAlphabetModelWrong)

/-- 'zzlaws_root_b1.FnValidEntryNameConcat': WHATEVER THE INPUT: true; the input reads as it did. -/
def fnValidEntryNameConcatSpec : ChangeSpec := { name := "fnValidEntryNameConcat", fn := fun _ => fun
  | [d1, d2] => { results := [.lit (.bool true)], args := [d1, d2] }
  | _ => none }
def fnValidEntryNameConcatRow : OpenClaim := { program := "qxb6602524amods", sum := "57d4007ed852f7e65d015a5729aab6eac12124b3812075f66a6bc365d4fc7eef", func := "example.com/cofferlink/cofferlink/zzlaws_root_b1.FnValidEntryNameConcat", spec := "fnValidEntryNameConcat", make := .lifted ["publicsums"], apart := false }
def FnValidEntryNameConcatSaid : Prop := fnValidEntryNameConcatRow.holds Trym.pinned (OpenSpec.ofChange fnValidEntryNameConcatSpec)

/-- ITS FALSE NEIGHBOUR: 'it returns false'. Refute it at one input. -/
def fnValidEntryNameConcatWrong : ChangeSpec := { name := "fnValidEntryNameConcat", fn := fun _ => fun
  | [d1, d2] => { results := [.lit (.bool false)], args := [d1, d2] }
  | _ => none }
def FnValidEntryNameConcatWrongFalsely : Prop := fnValidEntryNameConcatRow.holds Trym.pinned (OpenSpec.ofChange fnValidEntryNameConcatWrong)

/-- 'zzlaws_root_b1.FnValidEntryNameHexDigest': WHATEVER THE INPUT: true; the input reads as it did. -/
def fnValidEntryNameHexDigestSpec : ChangeSpec := { name := "fnValidEntryNameHexDigest", fn := fun _ => fun
  | [d] => { results := [.lit (.bool true)], args := [d] }
  | _ => none }
def fnValidEntryNameHexDigestRow : OpenClaim := { program := "qxb6602524amods", sum := "57d4007ed852f7e65d015a5729aab6eac12124b3812075f66a6bc365d4fc7eef", func := "example.com/cofferlink/cofferlink/zzlaws_root_b1.FnValidEntryNameHexDigest", spec := "fnValidEntryNameHexDigest", make := .lifted ["publicsums"], apart := false }
def FnValidEntryNameHexDigestSaid : Prop := fnValidEntryNameHexDigestRow.holds Trym.pinned (OpenSpec.ofChange fnValidEntryNameHexDigestSpec)

/-- ITS FALSE NEIGHBOUR: 'it returns false'. Refute it at one input. -/
def fnValidEntryNameHexDigestWrong : ChangeSpec := { name := "fnValidEntryNameHexDigest", fn := fun _ => fun
  | [d] => { results := [.lit (.bool false)], args := [d] }
  | _ => none }
def FnValidEntryNameHexDigestWrongFalsely : Prop := fnValidEntryNameHexDigestRow.holds Trym.pinned (OpenSpec.ofChange fnValidEntryNameHexDigestWrong)

/-- 'zzlaws_root_b1.FnSeriesSortedBinarySearch': WHATEVER THE INPUT: true; the input reads as it did. -/
def fnSeriesSortedBinarySearchSpec : ChangeSpec := { name := "fnSeriesSortedBinarySearch", fn := fun _ => fun
  | [d1, d2] => { results := [.lit (.bool true)], args := [d1, d2] }
  | _ => none }
def fnSeriesSortedBinarySearchRow : OpenClaim := { program := "qxb6602524amods", sum := "57d4007ed852f7e65d015a5729aab6eac12124b3812075f66a6bc365d4fc7eef", func := "example.com/cofferlink/cofferlink/zzlaws_root_b1.FnSeriesSortedBinarySearch", spec := "fnSeriesSortedBinarySearch", make := .lifted ["publicsums"], apart := false }
def FnSeriesSortedBinarySearchSaid : Prop := fnSeriesSortedBinarySearchRow.holds Trym.pinned (OpenSpec.ofChange fnSeriesSortedBinarySearchSpec)

/-- ITS FALSE NEIGHBOUR: 'it returns false'. Refute it at one input. -/
def fnSeriesSortedBinarySearchWrong : ChangeSpec := { name := "fnSeriesSortedBinarySearch", fn := fun _ => fun
  | [d1, d2] => { results := [.lit (.bool false)], args := [d1, d2] }
  | _ => none }
def FnSeriesSortedBinarySearchWrongFalsely : Prop := fnSeriesSortedBinarySearchRow.holds Trym.pinned (OpenSpec.ofChange fnSeriesSortedBinarySearchWrong)

/-- 'zzlaws_root_b1.FnSeriesMonotoneBounded': WHATEVER THE INPUT: true; the input reads as it did. -/
def fnSeriesMonotoneBoundedSpec : ChangeSpec := { name := "fnSeriesMonotoneBounded", fn := fun _ => fun
  | [d1, d2, d3] => { results := [.lit (.bool true)], args := [d1, d2, d3] }
  | _ => none }
def fnSeriesMonotoneBoundedRow : OpenClaim := { program := "qxb6602524amods", sum := "57d4007ed852f7e65d015a5729aab6eac12124b3812075f66a6bc365d4fc7eef", func := "example.com/cofferlink/cofferlink/zzlaws_root_b1.FnSeriesMonotoneBounded", spec := "fnSeriesMonotoneBounded", make := .lifted ["publicsums"], apart := false }
def FnSeriesMonotoneBoundedSaid : Prop := fnSeriesMonotoneBoundedRow.holds Trym.pinned (OpenSpec.ofChange fnSeriesMonotoneBoundedSpec)

/-- ITS FALSE NEIGHBOUR: 'it returns false'. Refute it at one input. -/
def fnSeriesMonotoneBoundedWrong : ChangeSpec := { name := "fnSeriesMonotoneBounded", fn := fun _ => fun
  | [d1, d2, d3] => { results := [.lit (.bool false)], args := [d1, d2, d3] }
  | _ => none }
def FnSeriesMonotoneBoundedWrongFalsely : Prop := fnSeriesMonotoneBoundedRow.holds Trym.pinned (OpenSpec.ofChange fnSeriesMonotoneBoundedWrong)

/-- 'zzlaws_root_b1.FnSeriesSwapFree': WHATEVER THE INPUT: true; the input reads as it did. -/
def fnSeriesSwapFreeSpec : ChangeSpec := { name := "fnSeriesSwapFree", fn := fun _ => fun
  | [d1, d2, d3, d4] => { results := [.lit (.bool true)], args := [d1, d2, d3, d4] }
  | _ => none }
def fnSeriesSwapFreeRow : OpenClaim := { program := "qxb6602524amods", sum := "57d4007ed852f7e65d015a5729aab6eac12124b3812075f66a6bc365d4fc7eef", func := "example.com/cofferlink/cofferlink/zzlaws_root_b1.FnSeriesSwapFree", spec := "fnSeriesSwapFree", make := .lifted ["publicsums"], apart := false }
def FnSeriesSwapFreeSaid : Prop := fnSeriesSwapFreeRow.holds Trym.pinned (OpenSpec.ofChange fnSeriesSwapFreeSpec)

/-- ITS FALSE NEIGHBOUR: 'it returns false'. Refute it at one input. -/
def fnSeriesSwapFreeWrong : ChangeSpec := { name := "fnSeriesSwapFree", fn := fun _ => fun
  | [d1, d2, d3, d4] => { results := [.lit (.bool false)], args := [d1, d2, d3, d4] }
  | _ => none }
def FnSeriesSwapFreeWrongFalsely : Prop := fnSeriesSwapFreeRow.holds Trym.pinned (OpenSpec.ofChange fnSeriesSwapFreeWrong)

end Rows
end Go.Proofs.Qxb6602524aMods
