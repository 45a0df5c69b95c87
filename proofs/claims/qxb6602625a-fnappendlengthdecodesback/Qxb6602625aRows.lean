/-
  No cell of these rows narrows 'for every input' (looked for: loops, veiled, ifaces, maps, wideKeys, modest, calm, conditions, laid).
  DERIVED. THE GIVEN ROWS OF THIS SEAT. 8 by the template 'for every input the law returns true; each argument reads behind the call as it read before'; 0 by the template 'total and deterministic' (their statements: Qxb6602625aTotals.lean).
  GIVEN WITH THE SEED: the statements are not yours to turn. If you find one false, say at which input.
  Laid BY PROGRAM, IN A SANDBOX (cutbox-rows.mjs): the forced cells as the released guide's own fill.sh prints them over the translation e0be07534c411226… (all of the seat's roots in one cut). By AI agents, Wed Nov 11 2026. No macro, syntax, notation, axiom, sorry.
-/
import Derived.Test.Qxb6602625aChecked
import GoSem.Claim
import GoSem.ClaimJoined
import GoSem.ClaimMapViews
import Derived.JoinedTies
import Derived.KernelRfl
namespace Go.Proofs.Qxb6602625a
/- THE CELL 'sum', in the pinned program and in every row, IS THE sha256 OF THE DUMP (.gsa) THAT Qxb6602625aProg.lean LOADS. Nothing in Lean hashes anything: it is a label: what it is worth is what the hold of that sum in a sandbox is worth. -/
noncomputable def Try.pinned : Pinned := { name := "qxb6602625a", sum := "e0be07534c4112263d3bcec9d60a0db28bf0a061d5a40ff05c644ca7bb05cb51", checked := Try.checked }
namespace Rows
def none {H : Type} : Left H := { results := [], args := [] }

/-- 'zzlaws_gsmmap_b1.FnAppendLengthDecodesBack': WHATEVER THE INPUT: true; the input reads as it did. -/
def fnAppendLengthDecodesBackSpec : ChangeSpec := { name := "fnAppendLengthDecodesBack", fn := fun _ => fun
  | [d1, d2] => { results := [.lit (.bool true)], args := [d1, d2] }
  | _ => none }
def fnAppendLengthDecodesBackRow : OpenClaim := { program := "qxb6602625a", sum := "e0be07534c4112263d3bcec9d60a0db28bf0a061d5a40ff05c644ca7bb05cb51", func := "example.com/crier/crier/zzlaws_gsmmap_b1.FnAppendLengthDecodesBack", spec := "fnAppendLengthDecodesBack", apart := false }
def FnAppendLengthDecodesBackSaid : Prop := fnAppendLengthDecodesBackRow.holds Try.pinned (OpenSpec.ofChange fnAppendLengthDecodesBackSpec)

/-- ITS FALSE NEIGHBOUR: 'it returns false'. Refute it at one input. -/
def fnAppendLengthDecodesBackWrong : ChangeSpec := { name := "fnAppendLengthDecodesBack", fn := fun _ => fun
  | [d1, d2] => { results := [.lit (.bool false)], args := [d1, d2] }
  | _ => none }
def FnAppendLengthDecodesBackWrongFalsely : Prop := fnAppendLengthDecodesBackRow.holds Try.pinned (OpenSpec.ofChange fnAppendLengthDecodesBackWrong)

/-- 'zzlaws_gsmmap_b1.FnAppendLengthSizeMonotone': WHATEVER THE INPUT: true; the input reads as it did. -/
def fnAppendLengthSizeMonotoneSpec : ChangeSpec := { name := "fnAppendLengthSizeMonotone", fn := fun _ => fun
  | [d1, d2] => { results := [.lit (.bool true)], args := [d1, d2] }
  | _ => none }
def fnAppendLengthSizeMonotoneRow : OpenClaim := { program := "qxb6602625a", sum := "e0be07534c4112263d3bcec9d60a0db28bf0a061d5a40ff05c644ca7bb05cb51", func := "example.com/crier/crier/zzlaws_gsmmap_b1.FnAppendLengthSizeMonotone", spec := "fnAppendLengthSizeMonotone", apart := false }
def FnAppendLengthSizeMonotoneSaid : Prop := fnAppendLengthSizeMonotoneRow.holds Try.pinned (OpenSpec.ofChange fnAppendLengthSizeMonotoneSpec)

/-- ITS FALSE NEIGHBOUR: 'it returns false'. Refute it at one input. -/
def fnAppendLengthSizeMonotoneWrong : ChangeSpec := { name := "fnAppendLengthSizeMonotone", fn := fun _ => fun
  | [d1, d2] => { results := [.lit (.bool false)], args := [d1, d2] }
  | _ => none }
def FnAppendLengthSizeMonotoneWrongFalsely : Prop := fnAppendLengthSizeMonotoneRow.holds Try.pinned (OpenSpec.ofChange fnAppendLengthSizeMonotoneWrong)

/-- 'zzlaws_gsmmap_b1.FnLengthOctetsAgreeWithInteger': WHATEVER THE INPUT: true; the input reads as it did. -/
def fnLengthOctetsAgreeWithIntegerSpec : ChangeSpec := { name := "fnLengthOctetsAgreeWithInteger", fn := fun _ => fun
  | [d] => { results := [.lit (.bool true)], args := [d] }
  | _ => none }
def fnLengthOctetsAgreeWithIntegerRow : OpenClaim := { program := "qxb6602625a", sum := "e0be07534c4112263d3bcec9d60a0db28bf0a061d5a40ff05c644ca7bb05cb51", func := "example.com/crier/crier/zzlaws_gsmmap_b1.FnLengthOctetsAgreeWithInteger", spec := "fnLengthOctetsAgreeWithInteger", apart := false }
def FnLengthOctetsAgreeWithIntegerSaid : Prop := fnLengthOctetsAgreeWithIntegerRow.holds Try.pinned (OpenSpec.ofChange fnLengthOctetsAgreeWithIntegerSpec)

/-- ITS FALSE NEIGHBOUR: 'it returns false'. Refute it at one input. -/
def fnLengthOctetsAgreeWithIntegerWrong : ChangeSpec := { name := "fnLengthOctetsAgreeWithInteger", fn := fun _ => fun
  | [d] => { results := [.lit (.bool false)], args := [d] }
  | _ => none }
def FnLengthOctetsAgreeWithIntegerWrongFalsely : Prop := fnLengthOctetsAgreeWithIntegerRow.holds Try.pinned (OpenSpec.ofChange fnLengthOctetsAgreeWithIntegerWrong)

/-- 'zzlaws_gsmmap_b1.FnAppendIntegerDecodesBack': WHATEVER THE INPUT: true; the input reads as it did. -/
def fnAppendIntegerDecodesBackSpec : ChangeSpec := { name := "fnAppendIntegerDecodesBack", fn := fun _ => fun
  | [d1, d2] => { results := [.lit (.bool true)], args := [d1, d2] }
  | _ => none }
def fnAppendIntegerDecodesBackRow : OpenClaim := { program := "qxb6602625a", sum := "e0be07534c4112263d3bcec9d60a0db28bf0a061d5a40ff05c644ca7bb05cb51", func := "example.com/crier/crier/zzlaws_gsmmap_b1.FnAppendIntegerDecodesBack", spec := "fnAppendIntegerDecodesBack", apart := false }
def FnAppendIntegerDecodesBackSaid : Prop := fnAppendIntegerDecodesBackRow.holds Try.pinned (OpenSpec.ofChange fnAppendIntegerDecodesBackSpec)

/-- ITS FALSE NEIGHBOUR: 'it returns false'. Refute it at one input. -/
def fnAppendIntegerDecodesBackWrong : ChangeSpec := { name := "fnAppendIntegerDecodesBack", fn := fun _ => fun
  | [d1, d2] => { results := [.lit (.bool false)], args := [d1, d2] }
  | _ => none }
def FnAppendIntegerDecodesBackWrongFalsely : Prop := fnAppendIntegerDecodesBackRow.holds Try.pinned (OpenSpec.ofChange fnAppendIntegerDecodesBackWrong)

/-- 'zzlaws_gsmmap_b1.FnAppendIntegerComplement': WHATEVER THE INPUT: true; the input reads as it did. -/
def fnAppendIntegerComplementSpec : ChangeSpec := { name := "fnAppendIntegerComplement", fn := fun _ => fun
  | [d] => { results := [.lit (.bool true)], args := [d] }
  | _ => none }
def fnAppendIntegerComplementRow : OpenClaim := { program := "qxb6602625a", sum := "e0be07534c4112263d3bcec9d60a0db28bf0a061d5a40ff05c644ca7bb05cb51", func := "example.com/crier/crier/zzlaws_gsmmap_b1.FnAppendIntegerComplement", spec := "fnAppendIntegerComplement", apart := false }
def FnAppendIntegerComplementSaid : Prop := fnAppendIntegerComplementRow.holds Try.pinned (OpenSpec.ofChange fnAppendIntegerComplementSpec)

/-- ITS FALSE NEIGHBOUR: 'it returns false'. Refute it at one input. -/
def fnAppendIntegerComplementWrong : ChangeSpec := { name := "fnAppendIntegerComplement", fn := fun _ => fun
  | [d] => { results := [.lit (.bool false)], args := [d] }
  | _ => none }
def FnAppendIntegerComplementWrongFalsely : Prop := fnAppendIntegerComplementRow.holds Try.pinned (OpenSpec.ofChange fnAppendIntegerComplementWrong)

/-- 'zzlaws_gsmmap_b1.FnAppendIntegerSizeByMagnitude': WHATEVER THE INPUT: true; the input reads as it did. -/
def fnAppendIntegerSizeByMagnitudeSpec : ChangeSpec := { name := "fnAppendIntegerSizeByMagnitude", fn := fun _ => fun
  | [d1, d2] => { results := [.lit (.bool true)], args := [d1, d2] }
  | _ => none }
def fnAppendIntegerSizeByMagnitudeRow : OpenClaim := { program := "qxb6602625a", sum := "e0be07534c4112263d3bcec9d60a0db28bf0a061d5a40ff05c644ca7bb05cb51", func := "example.com/crier/crier/zzlaws_gsmmap_b1.FnAppendIntegerSizeByMagnitude", spec := "fnAppendIntegerSizeByMagnitude", apart := false }
def FnAppendIntegerSizeByMagnitudeSaid : Prop := fnAppendIntegerSizeByMagnitudeRow.holds Try.pinned (OpenSpec.ofChange fnAppendIntegerSizeByMagnitudeSpec)

/-- ITS FALSE NEIGHBOUR: 'it returns false'. Refute it at one input. -/
def fnAppendIntegerSizeByMagnitudeWrong : ChangeSpec := { name := "fnAppendIntegerSizeByMagnitude", fn := fun _ => fun
  | [d1, d2] => { results := [.lit (.bool false)], args := [d1, d2] }
  | _ => none }
def FnAppendIntegerSizeByMagnitudeWrongFalsely : Prop := fnAppendIntegerSizeByMagnitudeRow.holds Try.pinned (OpenSpec.ofChange fnAppendIntegerSizeByMagnitudeWrong)

/-- 'zzlaws_gsmmap_b1.FnAppendTBCDDecodesBack': WHATEVER THE INPUT: true; the input reads as it did. -/
def fnAppendTBCDDecodesBackSpec : ChangeSpec := { name := "fnAppendTBCDDecodesBack", fn := fun _ => fun
  | [d1, d2] => { results := [.lit (.bool true)], args := [d1, d2] }
  | _ => none }
def fnAppendTBCDDecodesBackRow : OpenClaim := { program := "qxb6602625a", sum := "e0be07534c4112263d3bcec9d60a0db28bf0a061d5a40ff05c644ca7bb05cb51", func := "example.com/crier/crier/zzlaws_gsmmap_b1.FnAppendTBCDDecodesBack", spec := "fnAppendTBCDDecodesBack", apart := false }
def FnAppendTBCDDecodesBackSaid : Prop := fnAppendTBCDDecodesBackRow.holds Try.pinned (OpenSpec.ofChange fnAppendTBCDDecodesBackSpec)

/-- ITS FALSE NEIGHBOUR: 'it returns false'. Refute it at one input. -/
def fnAppendTBCDDecodesBackWrong : ChangeSpec := { name := "fnAppendTBCDDecodesBack", fn := fun _ => fun
  | [d1, d2] => { results := [.lit (.bool false)], args := [d1, d2] }
  | _ => none }
def FnAppendTBCDDecodesBackWrongFalsely : Prop := fnAppendTBCDDecodesBackRow.holds Try.pinned (OpenSpec.ofChange fnAppendTBCDDecodesBackWrong)

/-- 'zzlaws_gsmmap_b1.FnAppendTBCDConcatAtEvenSplit': WHATEVER THE INPUT: true; the input reads as it did. -/
def fnAppendTBCDConcatAtEvenSplitSpec : ChangeSpec := { name := "fnAppendTBCDConcatAtEvenSplit", fn := fun _ => fun
  | [d1, d2, d3] => { results := [.lit (.bool true)], args := [d1, d2, d3] }
  | _ => none }
def fnAppendTBCDConcatAtEvenSplitRow : OpenClaim := { program := "qxb6602625a", sum := "e0be07534c4112263d3bcec9d60a0db28bf0a061d5a40ff05c644ca7bb05cb51", func := "example.com/crier/crier/zzlaws_gsmmap_b1.FnAppendTBCDConcatAtEvenSplit", spec := "fnAppendTBCDConcatAtEvenSplit", apart := false }
def FnAppendTBCDConcatAtEvenSplitSaid : Prop := fnAppendTBCDConcatAtEvenSplitRow.holds Try.pinned (OpenSpec.ofChange fnAppendTBCDConcatAtEvenSplitSpec)

/-- ITS FALSE NEIGHBOUR: 'it returns false'. Refute it at one input. -/
def fnAppendTBCDConcatAtEvenSplitWrong : ChangeSpec := { name := "fnAppendTBCDConcatAtEvenSplit", fn := fun _ => fun
  | [d1, d2, d3] => { results := [.lit (.bool false)], args := [d1, d2, d3] }
  | _ => none }
def FnAppendTBCDConcatAtEvenSplitWrongFalsely : Prop := fnAppendTBCDConcatAtEvenSplitRow.holds Try.pinned (OpenSpec.ofChange fnAppendTBCDConcatAtEvenSplitWrong)

end Rows
end Go.Proofs.Qxb6602625a
