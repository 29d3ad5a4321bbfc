/-
  No cell of these rows narrows 'for every input' (looked for: loops, veiled, ifaces, maps, wideKeys, modest, calm, conditions, laid).
  DERIVED. THE GIVEN ROWS OF THIS SEAT. 7 by the template 'for every input the law returns true; each argument reads behind the call as it read before'; 0 by the template 'total and deterministic' (their statements: Qxb6601794aTotals.lean).
  GIVEN WITH THE SEED: the statements are not yours to turn. If you find one false, say at which input.
  Laid BY PROGRAM, IN A SANDBOX (cutbox-rows.mjs): the forced cells as the released guide's own fill.sh prints them over the translation e6ab3928978efc2d… (all of the seat's roots in one cut). By AI agents, Wed Nov 11 2026. No macro, syntax, notation, axiom, sorry.
-/
import Derived.Test.Qxb6601794aChecked
import GoSem.Claim
import GoSem.ClaimJoined
import GoSem.ClaimMapViews
import Derived.JoinedTies
import Derived.KernelRfl
namespace Go.Proofs.Qxb6601794a
/- THE CELL 'sum', in the pinned program and in every row, IS THE sha256 OF THE DUMP (.gsa) THAT Qxb6601794aProg.lean LOADS. Nothing in Lean hashes anything: it is a label: what it is worth is what the hold of that sum in a sandbox is worth. -/
noncomputable def Try.pinned : Pinned := { name := "qxb6601794a", sum := "e6ab3928978efc2d059fab9fcbc609eefbbd186a926f7c5fc410045e62c0716c", checked := Try.checked }
namespace Rows
def none {H : Type} : Left H := { results := [], args := [] }

/-- 'zzlaws_internal_strftime_b1.FnAppendIntMatchesDecimalModel': WHATEVER THE INPUT: true; the input reads as it did. -/
def fnAppendIntMatchesDecimalModelSpec : ChangeSpec := { name := "fnAppendIntMatchesDecimalModel", fn := fun _ => fun
  | [d1, d2, d3, d4] => { results := [.lit (.bool true)], args := [d1, d2, d3, d4] }
  | _ => none }
def fnAppendIntMatchesDecimalModelRow : OpenClaim := { program := "qxb6601794a", sum := "e6ab3928978efc2d059fab9fcbc609eefbbd186a926f7c5fc410045e62c0716c", func := "example.com/flumegate/flumegate/zzlaws_internal_strftime_b1.FnAppendIntMatchesDecimalModel", spec := "fnAppendIntMatchesDecimalModel", apart := false }
def FnAppendIntMatchesDecimalModelSaid : Prop := fnAppendIntMatchesDecimalModelRow.holds Try.pinned (OpenSpec.ofChange fnAppendIntMatchesDecimalModelSpec)

/-- ITS FALSE NEIGHBOUR: 'it returns false'. Refute it at one input. -/
def fnAppendIntMatchesDecimalModelWrong : ChangeSpec := { name := "fnAppendIntMatchesDecimalModel", fn := fun _ => fun
  | [d1, d2, d3, d4] => { results := [.lit (.bool false)], args := [d1, d2, d3, d4] }
  | _ => none }
def FnAppendIntMatchesDecimalModelWrongFalsely : Prop := fnAppendIntMatchesDecimalModelRow.holds Try.pinned (OpenSpec.ofChange fnAppendIntMatchesDecimalModelWrong)

/-- 'zzlaws_internal_strftime_b1.FnAppendIntReadsBack': WHATEVER THE INPUT: true; the input reads as it did. -/
def fnAppendIntReadsBackSpec : ChangeSpec := { name := "fnAppendIntReadsBack", fn := fun _ => fun
  | [d1, d2, d3] => { results := [.lit (.bool true)], args := [d1, d2, d3] }
  | _ => none }
def fnAppendIntReadsBackRow : OpenClaim := { program := "qxb6601794a", sum := "e6ab3928978efc2d059fab9fcbc609eefbbd186a926f7c5fc410045e62c0716c", func := "example.com/flumegate/flumegate/zzlaws_internal_strftime_b1.FnAppendIntReadsBack", spec := "fnAppendIntReadsBack", apart := false }
def FnAppendIntReadsBackSaid : Prop := fnAppendIntReadsBackRow.holds Try.pinned (OpenSpec.ofChange fnAppendIntReadsBackSpec)

/-- ITS FALSE NEIGHBOUR: 'it returns false'. Refute it at one input. -/
def fnAppendIntReadsBackWrong : ChangeSpec := { name := "fnAppendIntReadsBack", fn := fun _ => fun
  | [d1, d2, d3] => { results := [.lit (.bool false)], args := [d1, d2, d3] }
  | _ => none }
def FnAppendIntReadsBackWrongFalsely : Prop := fnAppendIntReadsBackRow.holds Try.pinned (OpenSpec.ofChange fnAppendIntReadsBackWrong)

/-- 'zzlaws_internal_strftime_b1.FnAppendIntPaddedTextsSortAsNumbers': WHATEVER THE INPUT: true; the input reads as it did. -/
def fnAppendIntPaddedTextsSortAsNumbersSpec : ChangeSpec := { name := "fnAppendIntPaddedTextsSortAsNumbers", fn := fun _ => fun
  | [d1, d2, d3, d4] => { results := [.lit (.bool true)], args := [d1, d2, d3, d4] }
  | _ => none }
def fnAppendIntPaddedTextsSortAsNumbersRow : OpenClaim := { program := "qxb6601794a", sum := "e6ab3928978efc2d059fab9fcbc609eefbbd186a926f7c5fc410045e62c0716c", func := "example.com/flumegate/flumegate/zzlaws_internal_strftime_b1.FnAppendIntPaddedTextsSortAsNumbers", spec := "fnAppendIntPaddedTextsSortAsNumbers", apart := false }
def FnAppendIntPaddedTextsSortAsNumbersSaid : Prop := fnAppendIntPaddedTextsSortAsNumbersRow.holds Try.pinned (OpenSpec.ofChange fnAppendIntPaddedTextsSortAsNumbersSpec)

/-- ITS FALSE NEIGHBOUR: 'it returns false'. Refute it at one input. -/
def fnAppendIntPaddedTextsSortAsNumbersWrong : ChangeSpec := { name := "fnAppendIntPaddedTextsSortAsNumbers", fn := fun _ => fun
  | [d1, d2, d3, d4] => { results := [.lit (.bool false)], args := [d1, d2, d3, d4] }
  | _ => none }
def FnAppendIntPaddedTextsSortAsNumbersWrongFalsely : Prop := fnAppendIntPaddedTextsSortAsNumbersRow.holds Try.pinned (OpenSpec.ofChange fnAppendIntPaddedTextsSortAsNumbersWrong)

/-- 'zzlaws_internal_strftime_b1.FnDatedOfJoinedLayoutsIsEither': WHATEVER THE INPUT: true; the input reads as it did. -/
def fnDatedOfJoinedLayoutsIsEitherSpec : ChangeSpec := { name := "fnDatedOfJoinedLayoutsIsEither", fn := fun _ => fun
  | [d1, d2] => { results := [.lit (.bool true)], args := [d1, d2] }
  | _ => none }
def fnDatedOfJoinedLayoutsIsEitherRow : OpenClaim := { program := "qxb6601794a", sum := "e6ab3928978efc2d059fab9fcbc609eefbbd186a926f7c5fc410045e62c0716c", func := "example.com/flumegate/flumegate/zzlaws_internal_strftime_b1.FnDatedOfJoinedLayoutsIsEither", spec := "fnDatedOfJoinedLayoutsIsEither", apart := false }
def FnDatedOfJoinedLayoutsIsEitherSaid : Prop := fnDatedOfJoinedLayoutsIsEitherRow.holds Try.pinned (OpenSpec.ofChange fnDatedOfJoinedLayoutsIsEitherSpec)

/-- ITS FALSE NEIGHBOUR: 'it returns false'. Refute it at one input. -/
def fnDatedOfJoinedLayoutsIsEitherWrong : ChangeSpec := { name := "fnDatedOfJoinedLayoutsIsEither", fn := fun _ => fun
  | [d1, d2] => { results := [.lit (.bool false)], args := [d1, d2] }
  | _ => none }
def FnDatedOfJoinedLayoutsIsEitherWrongFalsely : Prop := fnDatedOfJoinedLayoutsIsEitherRow.holds Try.pinned (OpenSpec.ofChange fnDatedOfJoinedLayoutsIsEitherWrong)

/-- 'zzlaws_internal_strftime_b1.FnReadTextMatchesRunModel': WHATEVER THE INPUT: true; the input reads as it did. -/
def fnReadTextMatchesRunModelSpec : ChangeSpec := { name := "fnReadTextMatchesRunModel", fn := fun _ => fun
  | [d1, d2] => { results := [.lit (.bool true)], args := [d1, d2] }
  | _ => none }
def fnReadTextMatchesRunModelRow : OpenClaim := { program := "qxb6601794a", sum := "e6ab3928978efc2d059fab9fcbc609eefbbd186a926f7c5fc410045e62c0716c", func := "example.com/flumegate/flumegate/zzlaws_internal_strftime_b1.FnReadTextMatchesRunModel", spec := "fnReadTextMatchesRunModel", apart := false }
def FnReadTextMatchesRunModelSaid : Prop := fnReadTextMatchesRunModelRow.holds Try.pinned (OpenSpec.ofChange fnReadTextMatchesRunModelSpec)

/-- ITS FALSE NEIGHBOUR: 'it returns false'. Refute it at one input. -/
def fnReadTextMatchesRunModelWrong : ChangeSpec := { name := "fnReadTextMatchesRunModel", fn := fun _ => fun
  | [d1, d2] => { results := [.lit (.bool false)], args := [d1, d2] }
  | _ => none }
def FnReadTextMatchesRunModelWrongFalsely : Prop := fnReadTextMatchesRunModelRow.holds Try.pinned (OpenSpec.ofChange fnReadTextMatchesRunModelWrong)

/-- 'zzlaws_internal_strftime_b1.FnReadTextReadsItsOwnText': WHATEVER THE INPUT: true; the input reads as it did. -/
def fnReadTextReadsItsOwnTextSpec : ChangeSpec := { name := "fnReadTextReadsItsOwnText", fn := fun _ => fun
  | [d1, d2] => { results := [.lit (.bool true)], args := [d1, d2] }
  | _ => none }
def fnReadTextReadsItsOwnTextRow : OpenClaim := { program := "qxb6601794a", sum := "e6ab3928978efc2d059fab9fcbc609eefbbd186a926f7c5fc410045e62c0716c", func := "example.com/flumegate/flumegate/zzlaws_internal_strftime_b1.FnReadTextReadsItsOwnText", spec := "fnReadTextReadsItsOwnText", apart := false }
def FnReadTextReadsItsOwnTextSaid : Prop := fnReadTextReadsItsOwnTextRow.holds Try.pinned (OpenSpec.ofChange fnReadTextReadsItsOwnTextSpec)

/-- ITS FALSE NEIGHBOUR: 'it returns false'. Refute it at one input. -/
def fnReadTextReadsItsOwnTextWrong : ChangeSpec := { name := "fnReadTextReadsItsOwnText", fn := fun _ => fun
  | [d1, d2] => { results := [.lit (.bool false)], args := [d1, d2] }
  | _ => none }
def FnReadTextReadsItsOwnTextWrongFalsely : Prop := fnReadTextReadsItsOwnTextRow.holds Try.pinned (OpenSpec.ofChange fnReadTextReadsItsOwnTextWrong)

/-- 'zzlaws_internal_strftime_b1.FnReadTextReadsInPieces': WHATEVER THE INPUT: true; the input reads as it did. -/
def fnReadTextReadsInPiecesSpec : ChangeSpec := { name := "fnReadTextReadsInPieces", fn := fun _ => fun
  | [d1, d2, d3] => { results := [.lit (.bool true)], args := [d1, d2, d3] }
  | _ => none }
def fnReadTextReadsInPiecesRow : OpenClaim := { program := "qxb6601794a", sum := "e6ab3928978efc2d059fab9fcbc609eefbbd186a926f7c5fc410045e62c0716c", func := "example.com/flumegate/flumegate/zzlaws_internal_strftime_b1.FnReadTextReadsInPieces", spec := "fnReadTextReadsInPieces", apart := false }
def FnReadTextReadsInPiecesSaid : Prop := fnReadTextReadsInPiecesRow.holds Try.pinned (OpenSpec.ofChange fnReadTextReadsInPiecesSpec)

/-- ITS FALSE NEIGHBOUR: 'it returns false'. Refute it at one input. -/
def fnReadTextReadsInPiecesWrong : ChangeSpec := { name := "fnReadTextReadsInPieces", fn := fun _ => fun
  | [d1, d2, d3] => { results := [.lit (.bool false)], args := [d1, d2, d3] }
  | _ => none }
def FnReadTextReadsInPiecesWrongFalsely : Prop := fnReadTextReadsInPiecesRow.holds Try.pinned (OpenSpec.ofChange fnReadTextReadsInPiecesWrong)

end Rows
end Go.Proofs.Qxb6601794a
