/-
  No cell of these rows narrows 'for every input' (looked for: loops, veiled, ifaces, maps, wideKeys, modest, calm, conditions, laid).
  DERIVED. THE GIVEN ROWS OF THIS SEAT. 6 by the template 'for every input the law returns true; each argument reads behind the call as it read before'; 0 by the template 'total and deterministic' (their statements: Qxb6605523aTotals.lean).
  GIVEN WITH THE SEED: the statements are not yours to turn. If you find one false, say at which input.
  Laid BY PROGRAM, IN A SANDBOX (cutbox-rows.mjs): the forced cells as the released guide's own fill.sh prints them over the translation 12d6d383f4cef099… (all of the seat's roots in one cut). By AI agents, Wed Nov 11 2026. No macro, syntax, notation, axiom, sorry.
-/
import Derived.Test.Qxb6605523aChecked
import GoSem.Claim
import GoSem.ClaimJoined
import GoSem.ClaimMapViews
import Derived.JoinedTies
import Derived.KernelRfl
namespace Go.Proofs.Qxb6605523a
/- THE CELL 'sum', in the pinned program and in every row, IS THE sha256 OF THE DUMP (.gsa) THAT Qxb6605523aProg.lean LOADS. Nothing in Lean hashes anything: it is a label: what it is worth is what the hold of that sum in a sandbox is worth. -/
noncomputable def Try.pinned : Pinned := { name := "qxb6605523a", sum := "12d6d383f4cef099444392166f5fa164e3a245944b02db21e3af379a17f54f2a", checked := Try.checked }
namespace Rows
def none {H : Type} : Left H := { results := [], args := [] }

/-- 'zzlaws_internal_keys_b1.FnAppendBytesDecodesBack': WHATEVER THE INPUT: true; the input reads as it did. -/
def fnAppendBytesDecodesBackSpec : ChangeSpec := { name := "fnAppendBytesDecodesBack", fn := fun _ => fun
  | [d1, d2] => { results := [.lit (.bool true)], args := [d1, d2] }
  | _ => none }
def fnAppendBytesDecodesBackRow : OpenClaim := { program := "qxb6605523a", sum := "12d6d383f4cef099444392166f5fa164e3a245944b02db21e3af379a17f54f2a", func := "example.com/holdfast/holdfast/zzlaws_internal_keys_b1.FnAppendBytesDecodesBack", spec := "fnAppendBytesDecodesBack", inPlace := ["internal/bytealg.IndexByte"], apart := false }
def FnAppendBytesDecodesBackSaid : Prop := fnAppendBytesDecodesBackRow.holds Try.pinned (OpenSpec.ofChange fnAppendBytesDecodesBackSpec)

/-- ITS FALSE NEIGHBOUR: 'it returns false'. Refute it at one input. -/
def fnAppendBytesDecodesBackWrong : ChangeSpec := { name := "fnAppendBytesDecodesBack", fn := fun _ => fun
  | [d1, d2] => { results := [.lit (.bool false)], args := [d1, d2] }
  | _ => none }
def FnAppendBytesDecodesBackWrongFalsely : Prop := fnAppendBytesDecodesBackRow.holds Try.pinned (OpenSpec.ofChange fnAppendBytesDecodesBackWrong)

/-- 'zzlaws_internal_keys_b1.FnAppendBytesOrderSurvivesSuffix': WHATEVER THE INPUT: true; the input reads as it did. -/
def fnAppendBytesOrderSurvivesSuffixSpec : ChangeSpec := { name := "fnAppendBytesOrderSurvivesSuffix", fn := fun _ => fun
  | [d1, d2, d3, d4] => { results := [.lit (.bool true)], args := [d1, d2, d3, d4] }
  | _ => none }
def fnAppendBytesOrderSurvivesSuffixRow : OpenClaim := { program := "qxb6605523a", sum := "12d6d383f4cef099444392166f5fa164e3a245944b02db21e3af379a17f54f2a", func := "example.com/holdfast/holdfast/zzlaws_internal_keys_b1.FnAppendBytesOrderSurvivesSuffix", spec := "fnAppendBytesOrderSurvivesSuffix", inPlace := ["internal/bytealg.IndexByte"], apart := false }
def FnAppendBytesOrderSurvivesSuffixSaid : Prop := fnAppendBytesOrderSurvivesSuffixRow.holds Try.pinned (OpenSpec.ofChange fnAppendBytesOrderSurvivesSuffixSpec)

/-- ITS FALSE NEIGHBOUR: 'it returns false'. Refute it at one input. -/
def fnAppendBytesOrderSurvivesSuffixWrong : ChangeSpec := { name := "fnAppendBytesOrderSurvivesSuffix", fn := fun _ => fun
  | [d1, d2, d3, d4] => { results := [.lit (.bool false)], args := [d1, d2, d3, d4] }
  | _ => none }
def FnAppendBytesOrderSurvivesSuffixWrongFalsely : Prop := fnAppendBytesOrderSurvivesSuffixRow.holds Try.pinned (OpenSpec.ofChange fnAppendBytesOrderSurvivesSuffixWrong)

/-- 'zzlaws_internal_keys_b1.FnRangeMetaKeyLocatesItsKey': WHATEVER THE INPUT: true; the input reads as it did. -/
def fnRangeMetaKeyLocatesItsKeySpec : ChangeSpec := { name := "fnRangeMetaKeyLocatesItsKey", fn := fun _ => fun
  | [d] => { results := [.lit (.bool true)], args := [d] }
  | _ => none }
def fnRangeMetaKeyLocatesItsKeyRow : OpenClaim := { program := "qxb6605523a", sum := "12d6d383f4cef099444392166f5fa164e3a245944b02db21e3af379a17f54f2a", func := "example.com/holdfast/holdfast/zzlaws_internal_keys_b1.FnRangeMetaKeyLocatesItsKey", spec := "fnRangeMetaKeyLocatesItsKey", apart := false }
def FnRangeMetaKeyLocatesItsKeySaid : Prop := fnRangeMetaKeyLocatesItsKeyRow.holds Try.pinned (OpenSpec.ofChange fnRangeMetaKeyLocatesItsKeySpec)

/-- ITS FALSE NEIGHBOUR: 'it returns false'. Refute it at one input. -/
def fnRangeMetaKeyLocatesItsKeyWrong : ChangeSpec := { name := "fnRangeMetaKeyLocatesItsKey", fn := fun _ => fun
  | [d] => { results := [.lit (.bool false)], args := [d] }
  | _ => none }
def FnRangeMetaKeyLocatesItsKeyWrongFalsely : Prop := fnRangeMetaKeyLocatesItsKeyRow.holds Try.pinned (OpenSpec.ofChange fnRangeMetaKeyLocatesItsKeyWrong)

/-- 'zzlaws_internal_keys_b1.FnRangeMetaKeyKeepsOrder': WHATEVER THE INPUT: true; the input reads as it did. -/
def fnRangeMetaKeyKeepsOrderSpec : ChangeSpec := { name := "fnRangeMetaKeyKeepsOrder", fn := fun _ => fun
  | [d1, d2] => { results := [.lit (.bool true)], args := [d1, d2] }
  | _ => none }
def fnRangeMetaKeyKeepsOrderRow : OpenClaim := { program := "qxb6605523a", sum := "12d6d383f4cef099444392166f5fa164e3a245944b02db21e3af379a17f54f2a", func := "example.com/holdfast/holdfast/zzlaws_internal_keys_b1.FnRangeMetaKeyKeepsOrder", spec := "fnRangeMetaKeyKeepsOrder", apart := false }
def FnRangeMetaKeyKeepsOrderSaid : Prop := fnRangeMetaKeyKeepsOrderRow.holds Try.pinned (OpenSpec.ofChange fnRangeMetaKeyKeepsOrderSpec)

/-- ITS FALSE NEIGHBOUR: 'it returns false'. Refute it at one input. -/
def fnRangeMetaKeyKeepsOrderWrong : ChangeSpec := { name := "fnRangeMetaKeyKeepsOrder", fn := fun _ => fun
  | [d1, d2] => { results := [.lit (.bool false)], args := [d1, d2] }
  | _ => none }
def FnRangeMetaKeyKeepsOrderWrongFalsely : Prop := fnRangeMetaKeyKeepsOrderRow.holds Try.pinned (OpenSpec.ofChange fnRangeMetaKeyKeepsOrderWrong)

/-- 'zzlaws_internal_keys_b1.FnRangeMetaKeyThreeReads': WHATEVER THE INPUT: true; the input reads as it did. -/
def fnRangeMetaKeyThreeReadsSpec : ChangeSpec := { name := "fnRangeMetaKeyThreeReads", fn := fun _ => fun
  | [d] => { results := [.lit (.bool true)], args := [d] }
  | _ => none }
def fnRangeMetaKeyThreeReadsRow : OpenClaim := { program := "qxb6605523a", sum := "12d6d383f4cef099444392166f5fa164e3a245944b02db21e3af379a17f54f2a", func := "example.com/holdfast/holdfast/zzlaws_internal_keys_b1.FnRangeMetaKeyThreeReads", spec := "fnRangeMetaKeyThreeReads", apart := false }
def FnRangeMetaKeyThreeReadsSaid : Prop := fnRangeMetaKeyThreeReadsRow.holds Try.pinned (OpenSpec.ofChange fnRangeMetaKeyThreeReadsSpec)

/-- ITS FALSE NEIGHBOUR: 'it returns false'. Refute it at one input. -/
def fnRangeMetaKeyThreeReadsWrong : ChangeSpec := { name := "fnRangeMetaKeyThreeReads", fn := fun _ => fun
  | [d] => { results := [.lit (.bool false)], args := [d] }
  | _ => none }
def FnRangeMetaKeyThreeReadsWrongFalsely : Prop := fnRangeMetaKeyThreeReadsRow.holds Try.pinned (OpenSpec.ofChange fnRangeMetaKeyThreeReadsWrong)

/-- 'zzlaws_internal_keys_b1.FnPrefixEndSplitsTheKeySpace': WHATEVER THE INPUT: true; the input reads as it did. -/
def fnPrefixEndSplitsTheKeySpaceSpec : ChangeSpec := { name := "fnPrefixEndSplitsTheKeySpace", fn := fun _ => fun
  | [d1, d2] => { results := [.lit (.bool true)], args := [d1, d2] }
  | _ => none }
def fnPrefixEndSplitsTheKeySpaceRow : OpenClaim := { program := "qxb6605523a", sum := "12d6d383f4cef099444392166f5fa164e3a245944b02db21e3af379a17f54f2a", func := "example.com/holdfast/holdfast/zzlaws_internal_keys_b1.FnPrefixEndSplitsTheKeySpace", spec := "fnPrefixEndSplitsTheKeySpace", apart := false }
def FnPrefixEndSplitsTheKeySpaceSaid : Prop := fnPrefixEndSplitsTheKeySpaceRow.holds Try.pinned (OpenSpec.ofChange fnPrefixEndSplitsTheKeySpaceSpec)

/-- ITS FALSE NEIGHBOUR: 'it returns false'. Refute it at one input. -/
def fnPrefixEndSplitsTheKeySpaceWrong : ChangeSpec := { name := "fnPrefixEndSplitsTheKeySpace", fn := fun _ => fun
  | [d1, d2] => { results := [.lit (.bool false)], args := [d1, d2] }
  | _ => none }
def FnPrefixEndSplitsTheKeySpaceWrongFalsely : Prop := fnPrefixEndSplitsTheKeySpaceRow.holds Try.pinned (OpenSpec.ofChange fnPrefixEndSplitsTheKeySpaceWrong)

end Rows
end Go.Proofs.Qxb6605523a
