/-
  No cell of these rows narrows 'for every input' (looked for: loops, veiled, ifaces, maps, wideKeys, modest, calm, conditions, laid).
  DERIVED. THE GIVEN ROWS OF THIS SEAT. 6 by the template 'for every input the law returns true; each argument reads behind the call as it read before'; 0 by the template 'total and deterministic' (their statements: Qxb6602184aTotals.lean).
  GIVEN WITH THE SEED: the statements are not yours to turn. If you find one false, say at which input.
  Laid BY PROGRAM, IN A SANDBOX (cutbox-rows.mjs): the forced cells as the released guide's own fill.sh prints them over the translation 5e6300d75dd4f1d7… (all of the seat's roots in one cut). By AI agents, Wed Nov 11 2026. No macro, syntax, notation, axiom, sorry.
-/
import Derived.Test.Qxb6602184aChecked
import GoSem.Claim
import GoSem.ClaimJoined
import GoSem.ClaimMapViews
import Derived.JoinedTies
import Derived.KernelRfl
namespace Go.Proofs.Qxb6602184a
/- THE CELL 'sum', in the pinned program and in every row, IS THE sha256 OF THE DUMP (.gsa) THAT Qxb6602184aProg.lean LOADS. Nothing in Lean hashes anything: it is a label: what it is worth is what the hold of that sum in a sandbox is worth. -/
noncomputable def Try.pinned : Pinned := { name := "qxb6602184a", sum := "5e6300d75dd4f1d78f922d41e153bd9065f4d05a325fb688bb0fbceb84e85840", checked := Try.checked }
namespace Rows
def none {H : Type} : Left H := { results := [], args := [] }

/-- 'zzlaws_jsonobject_b1.FnSkipSpaceSpec': WHATEVER THE INPUT: true; the input reads as it did. -/
def fnSkipSpaceSpecSpec : ChangeSpec := { name := "fnSkipSpaceSpec", fn := fun _ => fun
  | [d1, d2] => { results := [.lit (.bool true)], args := [d1, d2] }
  | _ => none }
def fnSkipSpaceSpecRow : OpenClaim := { program := "qxb6602184a", sum := "5e6300d75dd4f1d78f922d41e153bd9065f4d05a325fb688bb0fbceb84e85840", func := "example.com/treeline/treeline/zzlaws_jsonobject_b1.FnSkipSpaceSpec", spec := "fnSkipSpaceSpec", apart := false }
def FnSkipSpaceSpecSaid : Prop := fnSkipSpaceSpecRow.holds Try.pinned (OpenSpec.ofChange fnSkipSpaceSpecSpec)

/-- ITS FALSE NEIGHBOUR: 'it returns false'. Refute it at one input. -/
def fnSkipSpaceSpecWrong : ChangeSpec := { name := "fnSkipSpaceSpec", fn := fun _ => fun
  | [d1, d2] => { results := [.lit (.bool false)], args := [d1, d2] }
  | _ => none }
def FnSkipSpaceSpecWrongFalsely : Prop := fnSkipSpaceSpecRow.holds Try.pinned (OpenSpec.ofChange fnSkipSpaceSpecWrong)

/-- 'zzlaws_jsonobject_b1.FnSkipSpaceMonotone': WHATEVER THE INPUT: true; the input reads as it did. -/
def fnSkipSpaceMonotoneSpec : ChangeSpec := { name := "fnSkipSpaceMonotone", fn := fun _ => fun
  | [d1, d2, d3] => { results := [.lit (.bool true)], args := [d1, d2, d3] }
  | _ => none }
def fnSkipSpaceMonotoneRow : OpenClaim := { program := "qxb6602184a", sum := "5e6300d75dd4f1d78f922d41e153bd9065f4d05a325fb688bb0fbceb84e85840", func := "example.com/treeline/treeline/zzlaws_jsonobject_b1.FnSkipSpaceMonotone", spec := "fnSkipSpaceMonotone", apart := false }
def FnSkipSpaceMonotoneSaid : Prop := fnSkipSpaceMonotoneRow.holds Try.pinned (OpenSpec.ofChange fnSkipSpaceMonotoneSpec)

/-- ITS FALSE NEIGHBOUR: 'it returns false'. Refute it at one input. -/
def fnSkipSpaceMonotoneWrong : ChangeSpec := { name := "fnSkipSpaceMonotone", fn := fun _ => fun
  | [d1, d2, d3] => { results := [.lit (.bool false)], args := [d1, d2, d3] }
  | _ => none }
def FnSkipSpaceMonotoneWrongFalsely : Prop := fnSkipSpaceMonotoneRow.holds Try.pinned (OpenSpec.ofChange fnSkipSpaceMonotoneWrong)

/-- 'zzlaws_jsonobject_b1.FnClosingQuoteSpec': WHATEVER THE INPUT: true; the input reads as it did. -/
def fnClosingQuoteSpecSpec : ChangeSpec := { name := "fnClosingQuoteSpec", fn := fun _ => fun
  | [d1, d2] => { results := [.lit (.bool true)], args := [d1, d2] }
  | _ => none }
def fnClosingQuoteSpecRow : OpenClaim := { program := "qxb6602184a", sum := "5e6300d75dd4f1d78f922d41e153bd9065f4d05a325fb688bb0fbceb84e85840", func := "example.com/treeline/treeline/zzlaws_jsonobject_b1.FnClosingQuoteSpec", spec := "fnClosingQuoteSpec", apart := false }
def FnClosingQuoteSpecSaid : Prop := fnClosingQuoteSpecRow.holds Try.pinned (OpenSpec.ofChange fnClosingQuoteSpecSpec)

/-- ITS FALSE NEIGHBOUR: 'it returns false'. Refute it at one input. -/
def fnClosingQuoteSpecWrong : ChangeSpec := { name := "fnClosingQuoteSpec", fn := fun _ => fun
  | [d1, d2] => { results := [.lit (.bool false)], args := [d1, d2] }
  | _ => none }
def FnClosingQuoteSpecWrongFalsely : Prop := fnClosingQuoteSpecRow.holds Try.pinned (OpenSpec.ofChange fnClosingQuoteSpecWrong)

/-- 'zzlaws_jsonobject_b1.FnClosingQuoteOwnBytes': WHATEVER THE INPUT: true; the input reads as it did. -/
def fnClosingQuoteOwnBytesSpec : ChangeSpec := { name := "fnClosingQuoteOwnBytes", fn := fun _ => fun
  | [d1, d2] => { results := [.lit (.bool true)], args := [d1, d2] }
  | _ => none }
def fnClosingQuoteOwnBytesRow : OpenClaim := { program := "qxb6602184a", sum := "5e6300d75dd4f1d78f922d41e153bd9065f4d05a325fb688bb0fbceb84e85840", func := "example.com/treeline/treeline/zzlaws_jsonobject_b1.FnClosingQuoteOwnBytes", spec := "fnClosingQuoteOwnBytes", apart := false }
def FnClosingQuoteOwnBytesSaid : Prop := fnClosingQuoteOwnBytesRow.holds Try.pinned (OpenSpec.ofChange fnClosingQuoteOwnBytesSpec)

/-- ITS FALSE NEIGHBOUR: 'it returns false'. Refute it at one input. -/
def fnClosingQuoteOwnBytesWrong : ChangeSpec := { name := "fnClosingQuoteOwnBytes", fn := fun _ => fun
  | [d1, d2] => { results := [.lit (.bool false)], args := [d1, d2] }
  | _ => none }
def FnClosingQuoteOwnBytesWrongFalsely : Prop := fnClosingQuoteOwnBytesRow.holds Try.pinned (OpenSpec.ofChange fnClosingQuoteOwnBytesWrong)

/-- 'zzlaws_jsonobject_b1.FnValueEndSpec': WHATEVER THE INPUT: true; the input reads as it did. -/
def fnValueEndSpecSpec : ChangeSpec := { name := "fnValueEndSpec", fn := fun _ => fun
  | [d1, d2] => { results := [.lit (.bool true)], args := [d1, d2] }
  | _ => none }
def fnValueEndSpecRow : OpenClaim := { program := "qxb6602184a", sum := "5e6300d75dd4f1d78f922d41e153bd9065f4d05a325fb688bb0fbceb84e85840", func := "example.com/treeline/treeline/zzlaws_jsonobject_b1.FnValueEndSpec", spec := "fnValueEndSpec", recurses := true, apart := false }
def FnValueEndSpecSaid : Prop := fnValueEndSpecRow.holds Try.pinned (OpenSpec.ofChange fnValueEndSpecSpec)

/-- ITS FALSE NEIGHBOUR: 'it returns false'. Refute it at one input. -/
def fnValueEndSpecWrong : ChangeSpec := { name := "fnValueEndSpec", fn := fun _ => fun
  | [d1, d2] => { results := [.lit (.bool false)], args := [d1, d2] }
  | _ => none }
def FnValueEndSpecWrongFalsely : Prop := fnValueEndSpecRow.holds Try.pinned (OpenSpec.ofChange fnValueEndSpecWrong)

/-- 'zzlaws_jsonobject_b1.FnValueEndOwnBytes': WHATEVER THE INPUT: true; the input reads as it did. -/
def fnValueEndOwnBytesSpec : ChangeSpec := { name := "fnValueEndOwnBytes", fn := fun _ => fun
  | [d1, d2] => { results := [.lit (.bool true)], args := [d1, d2] }
  | _ => none }
def fnValueEndOwnBytesRow : OpenClaim := { program := "qxb6602184a", sum := "5e6300d75dd4f1d78f922d41e153bd9065f4d05a325fb688bb0fbceb84e85840", func := "example.com/treeline/treeline/zzlaws_jsonobject_b1.FnValueEndOwnBytes", spec := "fnValueEndOwnBytes", recurses := true, apart := false }
def FnValueEndOwnBytesSaid : Prop := fnValueEndOwnBytesRow.holds Try.pinned (OpenSpec.ofChange fnValueEndOwnBytesSpec)

/-- ITS FALSE NEIGHBOUR: 'it returns false'. Refute it at one input. -/
def fnValueEndOwnBytesWrong : ChangeSpec := { name := "fnValueEndOwnBytes", fn := fun _ => fun
  | [d1, d2] => { results := [.lit (.bool false)], args := [d1, d2] }
  | _ => none }
def FnValueEndOwnBytesWrongFalsely : Prop := fnValueEndOwnBytesRow.holds Try.pinned (OpenSpec.ofChange fnValueEndOwnBytesWrong)

end Rows
end Go.Proofs.Qxb6602184a
