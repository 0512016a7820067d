/-
  No cell of these rows narrows 'for every input' (looked for: loops, veiled, ifaces, maps, wideKeys, modest, calm, conditions, laid).
  DERIVED. THE GIVEN ROWS OF THIS SEAT. 6 by the template 'for every input the law returns true; each argument reads behind the call as it read before'; 0 by the template 'total and deterministic' (their statements: Qxb6600081aModsTotals.lean).
  GIVEN WITH THE SEED: the statements are not yours to turn. If you find one false, say at which input.
  Laid BY PROGRAM, IN A SANDBOX (cutbox-rows.mjs): the forced cells as the released guide's own fill.sh prints them over the translation 1f82148d8ae40088… (all of the seat's roots in one cut). By AI agents, Wed Nov 11 2026. No macro, syntax, notation, axiom, sorry.
-/
import Derived.Test.Qxb6600081aModsChecked
import GoSem.Claim
import GoSem.ClaimJoined
import GoSem.ClaimMapViews
import Derived.JoinedTies
import Derived.KernelRfl
namespace Go.Proofs.Qxb6600081aMods
/- THE CELL 'sum', in the pinned program and in every row, IS THE sha256 OF THE DUMP (.gsa) THAT Qxb6600081aModsProg.lean LOADS. Nothing in Lean hashes anything: it is a label: what it is worth is what the hold of that sum in a sandbox is worth. -/
noncomputable def Trym.pinned : Pinned := { name := "qxb6600081amods", sum := "1f82148d8ae4008833ec03bc21295819f18cc51276240d9304ba92924b0de84f", checked := Trym.checked }
namespace Rows
def none {H : Type} : Left H := { results := [], args := [] }

/-- 'zzlaws_linetext_b1.FnIsNumberConcat': WHATEVER THE INPUT: true; the input reads as it did. -/
def fnIsNumberConcatSpec : ChangeSpec := { name := "fnIsNumberConcat", fn := fun _ => fun
  | [d1, d2] => { results := [.lit (.bool true)], args := [d1, d2] }
  | _ => none }
def fnIsNumberConcatRow : OpenClaim := { program := "qxb6600081amods", sum := "1f82148d8ae4008833ec03bc21295819f18cc51276240d9304ba92924b0de84f", func := "example.com/signpost/signpost/zzlaws_linetext_b1.FnIsNumberConcat", spec := "fnIsNumberConcat", make := .lifted ["publicsums"], apart := false }
def FnIsNumberConcatSaid : Prop := fnIsNumberConcatRow.holds Trym.pinned (OpenSpec.ofChange fnIsNumberConcatSpec)

/-- ITS FALSE NEIGHBOUR: 'it returns false'. Refute it at one input. -/
def fnIsNumberConcatWrong : ChangeSpec := { name := "fnIsNumberConcat", fn := fun _ => fun
  | [d1, d2] => { results := [.lit (.bool false)], args := [d1, d2] }
  | _ => none }
def FnIsNumberConcatWrongFalsely : Prop := fnIsNumberConcatRow.holds Trym.pinned (OpenSpec.ofChange fnIsNumberConcatWrong)

/-- 'zzlaws_linetext_b1.FnIsNumberDecimalRendering': WHATEVER THE INPUT: true; the input reads as it did. -/
def fnIsNumberDecimalRenderingSpec : ChangeSpec := { name := "fnIsNumberDecimalRendering", fn := fun _ => fun
  | [d1, d2] => { results := [.lit (.bool true)], args := [d1, d2] }
  | _ => none }
def fnIsNumberDecimalRenderingRow : OpenClaim := { program := "qxb6600081amods", sum := "1f82148d8ae4008833ec03bc21295819f18cc51276240d9304ba92924b0de84f", func := "example.com/signpost/signpost/zzlaws_linetext_b1.FnIsNumberDecimalRendering", spec := "fnIsNumberDecimalRendering", make := .lifted ["publicsums"], apart := false }
def FnIsNumberDecimalRenderingSaid : Prop := fnIsNumberDecimalRenderingRow.holds Trym.pinned (OpenSpec.ofChange fnIsNumberDecimalRenderingSpec)

/-- ITS FALSE NEIGHBOUR: 'it returns false'. Refute it at one input. -/
def fnIsNumberDecimalRenderingWrong : ChangeSpec := { name := "fnIsNumberDecimalRendering", fn := fun _ => fun
  | [d1, d2] => { results := [.lit (.bool false)], args := [d1, d2] }
  | _ => none }
def FnIsNumberDecimalRenderingWrongFalsely : Prop := fnIsNumberDecimalRenderingRow.holds Trym.pinned (OpenSpec.ofChange fnIsNumberDecimalRenderingWrong)

/-- 'zzlaws_linetext_b1.FnNumberIsNoSchemeLetterMakesOne': WHATEVER THE INPUT: true; the input reads as it did. -/
def fnNumberIsNoSchemeLetterMakesOneSpec : ChangeSpec := { name := "fnNumberIsNoSchemeLetterMakesOne", fn := fun _ => fun
  | [d1, d2] => { results := [.lit (.bool true)], args := [d1, d2] }
  | _ => none }
def fnNumberIsNoSchemeLetterMakesOneRow : OpenClaim := { program := "qxb6600081amods", sum := "1f82148d8ae4008833ec03bc21295819f18cc51276240d9304ba92924b0de84f", func := "example.com/signpost/signpost/zzlaws_linetext_b1.FnNumberIsNoSchemeLetterMakesOne", spec := "fnNumberIsNoSchemeLetterMakesOne", make := .lifted ["publicsums"], apart := false }
def FnNumberIsNoSchemeLetterMakesOneSaid : Prop := fnNumberIsNoSchemeLetterMakesOneRow.holds Trym.pinned (OpenSpec.ofChange fnNumberIsNoSchemeLetterMakesOneSpec)

/-- ITS FALSE NEIGHBOUR: 'it returns false'. Refute it at one input. -/
def fnNumberIsNoSchemeLetterMakesOneWrong : ChangeSpec := { name := "fnNumberIsNoSchemeLetterMakesOne", fn := fun _ => fun
  | [d1, d2] => { results := [.lit (.bool false)], args := [d1, d2] }
  | _ => none }
def FnNumberIsNoSchemeLetterMakesOneWrongFalsely : Prop := fnNumberIsNoSchemeLetterMakesOneRow.holds Trym.pinned (OpenSpec.ofChange fnNumberIsNoSchemeLetterMakesOneWrong)

/-- 'zzlaws_linetext_b1.FnIsSchemeConcat': WHATEVER THE INPUT: true; the input reads as it did. -/
def fnIsSchemeConcatSpec : ChangeSpec := { name := "fnIsSchemeConcat", fn := fun _ => fun
  | [d1, d2] => { results := [.lit (.bool true)], args := [d1, d2] }
  | _ => none }
def fnIsSchemeConcatRow : OpenClaim := { program := "qxb6600081amods", sum := "1f82148d8ae4008833ec03bc21295819f18cc51276240d9304ba92924b0de84f", func := "example.com/signpost/signpost/zzlaws_linetext_b1.FnIsSchemeConcat", spec := "fnIsSchemeConcat", make := .lifted ["publicsums"], apart := false }
def FnIsSchemeConcatSaid : Prop := fnIsSchemeConcatRow.holds Trym.pinned (OpenSpec.ofChange fnIsSchemeConcatSpec)

/-- ITS FALSE NEIGHBOUR: 'it returns false'. Refute it at one input. -/
def fnIsSchemeConcatWrong : ChangeSpec := { name := "fnIsSchemeConcat", fn := fun _ => fun
  | [d1, d2] => { results := [.lit (.bool false)], args := [d1, d2] }
  | _ => none }
def FnIsSchemeConcatWrongFalsely : Prop := fnIsSchemeConcatRow.holds Trym.pinned (OpenSpec.ofChange fnIsSchemeConcatWrong)

/-- 'zzlaws_linetext_b1.FnIsSchemeCaseFree': WHATEVER THE INPUT: true; the input reads as it did. -/
def fnIsSchemeCaseFreeSpec : ChangeSpec := { name := "fnIsSchemeCaseFree", fn := fun _ => fun
  | [d] => { results := [.lit (.bool true)], args := [d] }
  | _ => none }
def fnIsSchemeCaseFreeRow : OpenClaim := { program := "qxb6600081amods", sum := "1f82148d8ae4008833ec03bc21295819f18cc51276240d9304ba92924b0de84f", func := "example.com/signpost/signpost/zzlaws_linetext_b1.FnIsSchemeCaseFree", spec := "fnIsSchemeCaseFree", make := .lifted ["publicsums"], apart := false }
def FnIsSchemeCaseFreeSaid : Prop := fnIsSchemeCaseFreeRow.holds Trym.pinned (OpenSpec.ofChange fnIsSchemeCaseFreeSpec)

/-- ITS FALSE NEIGHBOUR: 'it returns false'. Refute it at one input. -/
def fnIsSchemeCaseFreeWrong : ChangeSpec := { name := "fnIsSchemeCaseFree", fn := fun _ => fun
  | [d] => { results := [.lit (.bool false)], args := [d] }
  | _ => none }
def FnIsSchemeCaseFreeWrongFalsely : Prop := fnIsSchemeCaseFreeRow.holds Trym.pinned (OpenSpec.ofChange fnIsSchemeCaseFreeWrong)

/-- 'zzlaws_linetext_b1.FnIsSchemeShortTextsAsDocumented': WHATEVER THE INPUT: true; the input reads as it did. -/
def fnIsSchemeShortTextsAsDocumentedSpec : ChangeSpec := { name := "fnIsSchemeShortTextsAsDocumented", fn := fun _ => fun
  | [d] => { results := [.lit (.bool true)], args := [d] }
  | _ => none }
def fnIsSchemeShortTextsAsDocumentedRow : OpenClaim := { program := "qxb6600081amods", sum := "1f82148d8ae4008833ec03bc21295819f18cc51276240d9304ba92924b0de84f", func := "example.com/signpost/signpost/zzlaws_linetext_b1.FnIsSchemeShortTextsAsDocumented", spec := "fnIsSchemeShortTextsAsDocumented", make := .lifted ["publicsums"], apart := false }
def FnIsSchemeShortTextsAsDocumentedSaid : Prop := fnIsSchemeShortTextsAsDocumentedRow.holds Trym.pinned (OpenSpec.ofChange fnIsSchemeShortTextsAsDocumentedSpec)

/-- ITS FALSE NEIGHBOUR: 'it returns false'. Refute it at one input. -/
def fnIsSchemeShortTextsAsDocumentedWrong : ChangeSpec := { name := "fnIsSchemeShortTextsAsDocumented", fn := fun _ => fun
  | [d] => { results := [.lit (.bool false)], args := [d] }
  | _ => none }
def FnIsSchemeShortTextsAsDocumentedWrongFalsely : Prop := fnIsSchemeShortTextsAsDocumentedRow.holds Trym.pinned (OpenSpec.ofChange fnIsSchemeShortTextsAsDocumentedWrong)

end Rows
end Go.Proofs.Qxb6600081aMods
