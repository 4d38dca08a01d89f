/-
  No cell of these rows narrows 'for every input' (looked for: loops, veiled, ifaces, maps, wideKeys, modest, calm, conditions, laid).
  DERIVED. THE GIVEN ROWS OF THIS SEAT. 6 by the template 'for every input the law returns true; each argument reads behind the call as it read before'; 0 by the template 'total and deterministic' (their statements: Qxb6000788aTotals.lean).
  GIVEN WITH THE SEED: the statements are not yours to turn. If you find one false, say at which input.
  Laid BY PROGRAM, IN A SANDBOX (cutbox-rows.mjs): the forced cells as the released guide's own fill.sh prints them over the translation 3f7f3a52ba8c9bdb… (all of the seat's roots in one cut). By AI agents, Wed Nov 11 2026. No macro, syntax, notation, axiom, sorry.
-/
import Derived.Test.Qxb6000788aChecked
import GoSem.Claim
import GoSem.ClaimJoined
import GoSem.ClaimMapViews
import Derived.JoinedTies
import Derived.KernelRfl
namespace Go.Proofs.Qxb6000788a
/- THE CELL 'sum', in the pinned program and in every row, IS THE sha256 OF THE DUMP (.gsa) THAT Qxb6000788aProg.lean LOADS. Nothing in Lean hashes anything: it is a label: what it is worth is what the hold of that sum in a sandbox is worth. -/
noncomputable def Try.pinned : Pinned := { name := "qxb6000788a", sum := "3f7f3a52ba8c9bdbfbc17d2f855e4bdfcc0d1a7d7fa30998ee9a16104683ab98", checked := Try.checked }
namespace Rows
def none {H : Type} : Left H := { results := [], args := [] }

/-- 'zzlaws_internal_notation_b1.FnIsPlainDecimalMatchesSplitModel': WHATEVER THE INPUT: true; the input reads as it did. -/
def fnIsPlainDecimalMatchesSplitModelSpec : ChangeSpec := { name := "fnIsPlainDecimalMatchesSplitModel", fn := fun _ => fun
  | [d] => { results := [.lit (.bool true)], args := [d] }
  | _ => none }
def fnIsPlainDecimalMatchesSplitModelRow : OpenClaim := { program := "qxb6000788a", sum := "3f7f3a52ba8c9bdbfbc17d2f855e4bdfcc0d1a7d7fa30998ee9a16104683ab98", func := "example.com/tuoguan/tuoguan/zzlaws_internal_notation_b1.FnIsPlainDecimalMatchesSplitModel", spec := "fnIsPlainDecimalMatchesSplitModel", apart := false }
def FnIsPlainDecimalMatchesSplitModelSaid : Prop := fnIsPlainDecimalMatchesSplitModelRow.holds Try.pinned (OpenSpec.ofChange fnIsPlainDecimalMatchesSplitModelSpec)

/-- ITS FALSE NEIGHBOUR: 'it returns false'. Refute it at one input. -/
def fnIsPlainDecimalMatchesSplitModelWrong : ChangeSpec := { name := "fnIsPlainDecimalMatchesSplitModel", fn := fun _ => fun
  | [d] => { results := [.lit (.bool false)], args := [d] }
  | _ => none }
def FnIsPlainDecimalMatchesSplitModelWrongFalsely : Prop := fnIsPlainDecimalMatchesSplitModelRow.holds Try.pinned (OpenSpec.ofChange fnIsPlainDecimalMatchesSplitModelWrong)

/-- 'zzlaws_internal_notation_b1.FnIsPlainDecimalConcatenation': WHATEVER THE INPUT: true; the input reads as it did. -/
def fnIsPlainDecimalConcatenationSpec : ChangeSpec := { name := "fnIsPlainDecimalConcatenation", fn := fun _ => fun
  | [d1, d2] => { results := [.lit (.bool true)], args := [d1, d2] }
  | _ => none }
def fnIsPlainDecimalConcatenationRow : OpenClaim := { program := "qxb6000788a", sum := "3f7f3a52ba8c9bdbfbc17d2f855e4bdfcc0d1a7d7fa30998ee9a16104683ab98", func := "example.com/tuoguan/tuoguan/zzlaws_internal_notation_b1.FnIsPlainDecimalConcatenation", spec := "fnIsPlainDecimalConcatenation", apart := false }
def FnIsPlainDecimalConcatenationSaid : Prop := fnIsPlainDecimalConcatenationRow.holds Try.pinned (OpenSpec.ofChange fnIsPlainDecimalConcatenationSpec)

/-- ITS FALSE NEIGHBOUR: 'it returns false'. Refute it at one input. -/
def fnIsPlainDecimalConcatenationWrong : ChangeSpec := { name := "fnIsPlainDecimalConcatenation", fn := fun _ => fun
  | [d1, d2] => { results := [.lit (.bool false)], args := [d1, d2] }
  | _ => none }
def FnIsPlainDecimalConcatenationWrongFalsely : Prop := fnIsPlainDecimalConcatenationRow.holds Try.pinned (OpenSpec.ofChange fnIsPlainDecimalConcatenationWrong)

/-- 'zzlaws_internal_notation_b1.FnPlainDigitsAcceptsExactlyPlainTextsOfAtMost19Digits': WHATEVER THE INPUT: true; the input reads as it did. -/
def fnPlainDigitsAcceptsExactlyPlainTextsOfAtMost19DigitsSpec : ChangeSpec := { name := "fnPlainDigitsAcceptsExactlyPlainTextsOfAtMost19Digits", fn := fun _ => fun
  | [d] => { results := [.lit (.bool true)], args := [d] }
  | _ => none }
def fnPlainDigitsAcceptsExactlyPlainTextsOfAtMost19DigitsRow : OpenClaim := { program := "qxb6000788a", sum := "3f7f3a52ba8c9bdbfbc17d2f855e4bdfcc0d1a7d7fa30998ee9a16104683ab98", func := "example.com/tuoguan/tuoguan/zzlaws_internal_notation_b1.FnPlainDigitsAcceptsExactlyPlainTextsOfAtMost19Digits", spec := "fnPlainDigitsAcceptsExactlyPlainTextsOfAtMost19Digits", apart := false }
def FnPlainDigitsAcceptsExactlyPlainTextsOfAtMost19DigitsSaid : Prop := fnPlainDigitsAcceptsExactlyPlainTextsOfAtMost19DigitsRow.holds Try.pinned (OpenSpec.ofChange fnPlainDigitsAcceptsExactlyPlainTextsOfAtMost19DigitsSpec)

/-- ITS FALSE NEIGHBOUR: 'it returns false'. Refute it at one input. -/
def fnPlainDigitsAcceptsExactlyPlainTextsOfAtMost19DigitsWrong : ChangeSpec := { name := "fnPlainDigitsAcceptsExactlyPlainTextsOfAtMost19Digits", fn := fun _ => fun
  | [d] => { results := [.lit (.bool false)], args := [d] }
  | _ => none }
def FnPlainDigitsAcceptsExactlyPlainTextsOfAtMost19DigitsWrongFalsely : Prop := fnPlainDigitsAcceptsExactlyPlainTextsOfAtMost19DigitsRow.holds Try.pinned (OpenSpec.ofChange fnPlainDigitsAcceptsExactlyPlainTextsOfAtMost19DigitsWrong)

/-- 'zzlaws_internal_notation_b1.FnPlainDigitsReadsRenderedNumberBack': WHATEVER THE INPUT: true; the input reads as it did. -/
def fnPlainDigitsReadsRenderedNumberBackSpec : ChangeSpec := { name := "fnPlainDigitsReadsRenderedNumberBack", fn := fun _ => fun
  | [d1, d2] => { results := [.lit (.bool true)], args := [d1, d2] }
  | _ => none }
def fnPlainDigitsReadsRenderedNumberBackRow : OpenClaim := { program := "qxb6000788a", sum := "3f7f3a52ba8c9bdbfbc17d2f855e4bdfcc0d1a7d7fa30998ee9a16104683ab98", func := "example.com/tuoguan/tuoguan/zzlaws_internal_notation_b1.FnPlainDigitsReadsRenderedNumberBack", spec := "fnPlainDigitsReadsRenderedNumberBack", apart := false }
def FnPlainDigitsReadsRenderedNumberBackSaid : Prop := fnPlainDigitsReadsRenderedNumberBackRow.holds Try.pinned (OpenSpec.ofChange fnPlainDigitsReadsRenderedNumberBackSpec)

/-- ITS FALSE NEIGHBOUR: 'it returns false'. Refute it at one input. -/
def fnPlainDigitsReadsRenderedNumberBackWrong : ChangeSpec := { name := "fnPlainDigitsReadsRenderedNumberBack", fn := fun _ => fun
  | [d1, d2] => { results := [.lit (.bool false)], args := [d1, d2] }
  | _ => none }
def FnPlainDigitsReadsRenderedNumberBackWrongFalsely : Prop := fnPlainDigitsReadsRenderedNumberBackRow.holds Try.pinned (OpenSpec.ofChange fnPlainDigitsReadsRenderedNumberBackWrong)

/-- 'zzlaws_internal_notation_b1.FnPlainDigitsRenderGivesCanonicalText': WHATEVER THE INPUT: true; the input reads as it did. -/
def fnPlainDigitsRenderGivesCanonicalTextSpec : ChangeSpec := { name := "fnPlainDigitsRenderGivesCanonicalText", fn := fun _ => fun
  | [d] => { results := [.lit (.bool true)], args := [d] }
  | _ => none }
def fnPlainDigitsRenderGivesCanonicalTextRow : OpenClaim := { program := "qxb6000788a", sum := "3f7f3a52ba8c9bdbfbc17d2f855e4bdfcc0d1a7d7fa30998ee9a16104683ab98", func := "example.com/tuoguan/tuoguan/zzlaws_internal_notation_b1.FnPlainDigitsRenderGivesCanonicalText", spec := "fnPlainDigitsRenderGivesCanonicalText", apart := false }
def FnPlainDigitsRenderGivesCanonicalTextSaid : Prop := fnPlainDigitsRenderGivesCanonicalTextRow.holds Try.pinned (OpenSpec.ofChange fnPlainDigitsRenderGivesCanonicalTextSpec)

/-- ITS FALSE NEIGHBOUR: 'it returns false'. Refute it at one input. -/
def fnPlainDigitsRenderGivesCanonicalTextWrong : ChangeSpec := { name := "fnPlainDigitsRenderGivesCanonicalText", fn := fun _ => fun
  | [d] => { results := [.lit (.bool false)], args := [d] }
  | _ => none }
def FnPlainDigitsRenderGivesCanonicalTextWrongFalsely : Prop := fnPlainDigitsRenderGivesCanonicalTextRow.holds Try.pinned (OpenSpec.ofChange fnPlainDigitsRenderGivesCanonicalTextWrong)

/-- 'zzlaws_internal_notation_b1.FnPlainDigitsZeroPaddingScales': WHATEVER THE INPUT: true; the input reads as it did. -/
def fnPlainDigitsZeroPaddingScalesSpec : ChangeSpec := { name := "fnPlainDigitsZeroPaddingScales", fn := fun _ => fun
  | [d] => { results := [.lit (.bool true)], args := [d] }
  | _ => none }
def fnPlainDigitsZeroPaddingScalesRow : OpenClaim := { program := "qxb6000788a", sum := "3f7f3a52ba8c9bdbfbc17d2f855e4bdfcc0d1a7d7fa30998ee9a16104683ab98", func := "example.com/tuoguan/tuoguan/zzlaws_internal_notation_b1.FnPlainDigitsZeroPaddingScales", spec := "fnPlainDigitsZeroPaddingScales", apart := false }
def FnPlainDigitsZeroPaddingScalesSaid : Prop := fnPlainDigitsZeroPaddingScalesRow.holds Try.pinned (OpenSpec.ofChange fnPlainDigitsZeroPaddingScalesSpec)

/-- ITS FALSE NEIGHBOUR: 'it returns false'. Refute it at one input. -/
def fnPlainDigitsZeroPaddingScalesWrong : ChangeSpec := { name := "fnPlainDigitsZeroPaddingScales", fn := fun _ => fun
  | [d] => { results := [.lit (.bool false)], args := [d] }
  | _ => none }
def FnPlainDigitsZeroPaddingScalesWrongFalsely : Prop := fnPlainDigitsZeroPaddingScalesRow.holds Try.pinned (OpenSpec.ofChange fnPlainDigitsZeroPaddingScalesWrong)

end Rows
end Go.Proofs.Qxb6000788a
